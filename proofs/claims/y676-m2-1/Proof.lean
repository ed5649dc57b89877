import JvmDerived
import JvmDerived.Pilot.@@N@@Statement
import JvmDerived.Pilot.@@N@@Code
set_option linter.unusedVariables false
set_option linter.unusedSimpArgs false
@@BLOCK:NumsL.lean.txt@@
namespace Jvm.Pilot.@@N@@
open Jvm Jvm.ClassFile Sem Op Lib Jvm.Free Jvm.Stand Jvm.LawKit Jvm.RoadKit Bundle Jvm.Pilot.@@N@@.Jvm.D
/-! the goal that a walk carries along: from this state the run comes to the method's end, and Q holds there -/
def own_G (tb : Tables) (e : Env) (below : List Frame) (s : State) (Q : Option Value → Heap → List Loc → Prop) (kc ks : Nat) (st : State) : Prop :=
  ∃ u o, Steps tb e below st u ∧ u.status = .running ∧ Ended u below o ∧ ∃ v L, o = .returned v ∧ Q v u.heap L ∧ FrameEnd s o u L kc ks
theorem own_in {tb : Tables} {e : Env} {below : List Frame} {s : State} {Q : Option Value → Heap → List Loc → Prop} {kc ks : Nat} {st : State} (h : own_G tb e below s Q kc ks st) :
    ∃ u o, Steps tb e below st u ∧ u.status = .running ∧ Ended u below o ∧ ∃ v L, o = .returned v ∧ Q v u.heap L ∧ FrameEnd s o u L kc ks := h
theorem own_st {tb : Tables} {e : Env} {below : List Frame} {s : State} {Q : Option Value → Heap → List Loc → Prop} {kc ks : Nat} {a b : State} (k : ∀ t, Steps tb e below b t → Steps tb e below a t) (h : own_G tb e below s Q kc ks b) : own_G tb e below s Q kc ks a := by
  obtain ⟨u, o, h1, h2⟩ := h; exact ⟨u, o, k u h1, h2⟩
section OwnRet
variable {p : Program} {l : Launch} {e : Env} {R : Room} {s : State} {m : MethodId} {args : Array Value} {below : List Frame} {meth : Method} {c : Code} {T : State} {locs : List Loc} {cells slots : Nat} {Q : Option Value → Heap → List Loc → Prop} {kc ks : Nat} {pc : Nat} {Ls : Array Slot} {rest : List Value}
theorem own_ret (X : Stand p l e R s m args below meth c T locs cells slots) {v : Option Value} (hv : meth.sig.returnType = none → v = none) (hlk : meth.locks = false) (hc : cells ≤ kc) (hs : slots ≤ ks) (hQ : Q v T.heap locs) {st : State}
    (step : ∀ fs, (∀ (f : JFrame) (acts : List Action), f.method = m → f.locked = none → f.entered = [] → (doReturn e (T.setTop f) acts v).1 = T.setFrames fs) → Steps p.tables e below st (T.setFrames fs)) : own_G p.tables e below s Q kc ks st := by
  obtain ⟨fs, hr, hrun, hended, hW, hsame⟩ := X.leave (v := v) hv hlk
  exact ⟨_, _, step fs hr, hrun, hended, _, _, rfl, hQ, ⟨_, rfl⟩, hW, hsame.mono hc hs⟩
theorem own_retV (X : Stand p l e R s m args below meth c T locs cells slots) (hx : p.tables.exec = Jvm.exec) (hret : meth.sig.returnType = none) (hlk : meth.locks = false) (hd : decode c.code pc = .ok (.return_, 1)) (hc : cells ≤ kc) (hs : slots ≤ ks) (hQ : Q none T.heap locs) : own_G p.tables e below s Q kc ks (T.setTop (mkF m pc Ls [])) :=
  own_ret X (v := none) (fun _ => rfl) hlk hc hs hQ fun _ hr => X.returnOut hx hret hd hr
theorem own_retI {z : Int32} (X : Stand p l e R s m args below meth c T locs cells slots) (hx : p.tables.exec = Jvm.exec) (hret : meth.sig.returnType = some .int) (hlk : meth.locks = false) (hd : decode c.code pc = .ok (.ireturn, 1)) (hc : cells ≤ kc) (hs : slots ≤ ks) (hQ : Q (some (.int z)) T.heap locs) : own_G p.tables e below s Q kc ks (T.setTop (mkF m pc Ls (.int z :: rest))) :=
  own_ret X (v := some (.int z)) (fun h => by rw [hret] at h; cases h) hlk hc hs hQ fun _ hr => retOut X hx hret rfl (Or.inl ⟨rfl, Or.inl rfl, z, rfl⟩) hd hr
theorem own_retJ {z : Int64} (X : Stand p l e R s m args below meth c T locs cells slots) (hx : p.tables.exec = Jvm.exec) (hret : meth.sig.returnType = some .long) (hlk : meth.locks = false) (hd : decode c.code pc = .ok (.lreturn, 1)) (hc : cells ≤ kc) (hs : slots ≤ ks) (hQ : Q (some (.long z)) T.heap locs) : own_G p.tables e below s Q kc ks (T.setTop (mkF m pc Ls (.long z :: rest))) :=
  own_ret X (v := some (.long z)) (fun h => by rw [hret] at h; cases h) hlk hc hs hQ fun _ hr => retOut X hx hret rfl (Or.inr (Or.inl ⟨rfl, rfl, z, rfl⟩)) hd hr
theorem own_retA {ft : FieldType} {w : Value} (ht : ft.isReference = true) (hw : w.isRef = true) (X : Stand p l e R s m args below meth c T locs cells slots) (hx : p.tables.exec = Jvm.exec) (hret : meth.sig.returnType = some ft) (hlk : meth.locks = false) (hd : decode c.code pc = .ok (.areturn, 1)) (hc : cells ≤ kc) (hs : slots ≤ ks) (hQ : Q (some w) T.heap locs) : own_G p.tables e below s Q kc ks (T.setTop (mkF m pc Ls (w :: rest))) :=
  own_ret X (v := some w) (fun h => by rw [hret] at h; cases h) hlk hc hs hQ fun _ hr => retOut X hx hret (by cases ft <;> first | (cases ht; done) | (cases w <;> first | rfl | cases hw)) (Or.inr (Or.inr (Or.inr (Or.inr ⟨rfl, ht, hw⟩)))) hd hr
theorem own_retN {t : FieldType} {z : Int32} (ht : t = .boolean ∨ t = .byte ∨ t = .char ∨ t = .short) (X : Stand p l e R s m args below meth c T locs cells slots) (hx : p.tables.exec = Jvm.exec) (hret : meth.sig.returnType = some t) (hlk : meth.locks = false) (hd : decode c.code pc = .ok (.ireturn, 1)) (hc : cells ≤ kc) (hs : slots ≤ ks) (hQ : Q (some (.int (nar t z))) T.heap locs) : own_G p.tables e below s Q kc ks (T.setTop (mkF m pc Ls (.int z :: rest))) :=
  own_ret X (v := some (.int (nar t z))) (fun h => by rw [hret] at h; cases h) hlk hc hs hQ fun _ hr => retN X hx hret ht hd hr
end OwnRet
def own_b (P : Prop) [Decidable P] : Int32 := if P then 1 else 0
theorem own_bT {P : Prop} [Decidable P] (h : P) : some (Value.int (nar .boolean (1 : Int32))) = some (Value.int (own_b P)) := by rw [own_b, if_pos h]; rfl
theorem own_bF {P : Prop} [Decidable P] (h : ¬ P) : some (Value.int (nar .boolean (0 : Int32))) = some (Value.int (own_b P)) := by rw [own_b, if_neg h]; rfl
theorem own_bEq {P P' : Prop} [Decidable P] [Decidable P'] (h : P ↔ P') : own_b P = own_b P' := by simp only [own_b, h]
/-- a body that writes nothing: what it returns, the heap as it was -/
def own_Qp (r : Option Value) (h0 : Heap) (n0 : Nat) (v : Option Value) (h : Heap) (L : List Loc) : Prop := v = r ∧ Fr n0 L ∧ h = h0
/-- the law's own end: it returns 1, nothing old is written -/
def own_Q0 (n0 : Nat) (v : Option Value) (h : Heap) (L : List Loc) : Prop := v = some (.int 1) ∧ Fr n0 L
theorem own_ord {s : State} {args : Array Value} {t : Term} {a : Addr} {C n d : String} {k : Int32} (ev : t.eval args s none [] s = some (.ref a)) (h : (Jvm.Cond.eq (Term.field t C n d) (Term.int k)).value args s none s [] = some true) : Fld s s.heap a C n d (.int k) := by
  obtain ⟨x, y, e1, e2, -, k2⟩ := cmp_v (Or.inl h)
  obtain rfl : Value.int k = y := Option.some.inj e2
  obtain ⟨z, rfl⟩ := k2
  have q : z = k := by simpa [Jvm.Cond.value, e1, e2] using h
  subst q
  exact Fld.start ((fld_at ev).symm.trans e1)
theorem own_len {s : State} {args : Array Value} {t : Term} {a : Addr} {c : Cell} {ty : FieldType} {n : Int32} (ev : t.eval args s none [] s = some (.ref a)) (A : Arr s s.heap a c ty) (h : (Jvm.Cond.eq (Term.length t) (Term.int n)).value args s none s [] = some true) : c.slots.size < 2 ^ 31 ∧ c.slots.size.toInt32 = n := by
  have q := eqv_i (Term.int_eval n) h
  have f := A.fin (Vm.Alike.refl _)
  have z : c.slots.size < 2147483648 ∧ c.slots.size.toInt32 = n := by simpa [Term.eval, ev, f] using q
  exact z
theorem own_eqr {s : State} {args : Array Value} {X F : Term} {y : Addr} (hF : F.eval args s none [] s = some (.ref y)) (h : (Jvm.Cond.eq X F).value args s none s [] = some true) : X.eval args s none [] s = some (.ref y) := by
  obtain ⟨x, y', e1, e2, k1, k2⟩ := cmp_v (Or.inl h)
  cases hF.symm.trans e2
  have hx : x.isRef = true := k2.2
  have q := gotT (eq_R e1 hF hx rfl) h
  rw [q] at e1; exact e1
theorem own_el {s : State} {args : Array Value} {t : Term} {a : Addr} {c : Cell} {ty : FieldType} {j : Int32} {v : Value} (ev : t.eval args s none [] s = some (.ref a)) (A : Arr s s.heap a c ty) (h : (Term.elem t (Term.int j)).eval args s none [] s = some v) : c.slots[j.toNatClampNeg]? = some v := (elem_in h ev (Term.int_eval j) A.1).2
theorem own_nea {Z : State} {h : Heap} {a b : Addr} {C : String} {a0 : Array Value} {k : Nat} {kc : ClassId} {ty : FieldType} {z : Int32} {vs : List Value} {d : Value} (F : Exa Z h a C) (wi : (Jvm.Cond.instantiable C k).before a0 Z = true) (V : Arv Z h b kc ty z vs d) : a ≠ b := by
  obtain ⟨c, A, -⟩ := V; exact ne_arr F wi A
theorem own_pd0 : parseMethodDescriptor "(I[BZZ)V" = some ⟨[.int, (.array .byte), .boolean, .boolean], none⟩ := by decide +kernel
theorem own_pd1 : parseMethodDescriptor "()[B" = some ⟨[], some (.array .byte)⟩ := by decide +kernel
theorem own_pd2 : parseMethodDescriptor "()I" = some ⟨[], some .int⟩ := by decide +kernel
theorem own_pd3 : parseMethodDescriptor "()Z" = some ⟨[], some .boolean⟩ := by decide +kernel
theorem own_n3 (p : Int32) : (p &&& 3) = 0 ∨ (p &&& 3) = 1 ∨ (p &&& 3) = 2 ∨ (p &&& 3) = 3 := by
  have h := Jvm.Kit.i32_mask p 3 (k := 2) (by decide) (by decide)
  have k : ∀ n : Int32, (p &&& 3) = n ↔ (p &&& 3).toInt = n.toInt := fun n => Int32.toInt_inj.symm
  simp only [k, show (0 : Int32).toInt = 0 from by decide, show (1 : Int32).toInt = 1 from by decide, show (2 : Int32).toInt = 2 from by decide, show (3 : Int32).toInt = 3 from by decide]
  omega
theorem own_nb {v : Int32} (h : v = 0 ∨ v = 1) : nar .boolean (nar .boolean v) = v := by rcases h with rfl | rfl <;> decide
theorem own_bb (y : Int32) : nar .byte (y.toInt8.toInt32) = y.toInt8.toInt32 := by show y.toInt8.toInt32.toInt8.toInt32 = y.toInt8.toInt32; simp
theorem own_z : nar .boolean (0 : Int32) = 0 := by decide
theorem own_pn0 : plainName "java/lang/Record" = true := by first | (simp [plainName, overriddenIn]; done) | decide +kernel
theorem own_d2_0 : decode jdk_30_method_1_code 0 = .ok (.aload_n 0, 1) := by decide +kernel
theorem own_d2_1 : decode jdk_30_method_1_code 1 = .ok (.invokespecial 1, 3) := by decide +kernel
theorem own_d2_4 : decode jdk_30_method_1_code 4 = .ok (.return_, 1) := by decide +kernel
theorem own_ef2 (m : MethodId) (a1 : Addr) : entryFrame m #[(.ref a1)] 1 = mkF m 0 #[.val (.ref a1)] [] := by first | (simp [entryFrame, mkF, argsToLocals, Value.category]; done) | rfl
set_option maxRecDepth 65536 in
set_option maxHeartbeats 40000000 in
theorem own_rm2 (l : Launch) (Z : State) (a0 : Array Value) (hw : ∀ d ∈ tables_1, d.before a0 Z = true) (ws : List Jvm.Cond) (a1 : Addr) (h0 : Heap) (n0 : Nat) (Z0 : n0 ≤ h0.size)  :
    MetFree l (⟨"java/lang/Record", "<init>", "()V"⟩ : MethodName) (head1 (Jvm.Cond.code (⟨"java/lang/Record", "<init>", "()V"⟩ : MethodName) jdk_30_method_1_code 1 none :: ws) ({ frames := 1, cells := 0, slots := 0, locals := 12 } : Room)) (fun a U => a = #[(.ref a1)] ∧ Z.Warmed39 U.vm ∧ U.heap = h0) (fun _ _ _ _ _ => True) (fun _ U o U' => ∃ v L, o = .returned v ∧ own_Qp none h0 n0 v U'.heap L ∧ FrameEnd U o U' L ({ frames := 1, cells := 0, slots := 0, locals := 12 } : Room).cells ({ frames := 1, cells := 0, slots := 0, locals := 12 } : Room).slots) := by
  refine MetFree.of_bodySF (plainFor_of_name own_pn0) hisR ?_
  intro p e s m args below meth c s₁ Bd hml0 hP hK
  obtain ⟨rfl, hZ, hh⟩ := hP
  have hx := Bd.exec
  have hby := Bd.bytes
  have hml : c.maxLocals = 1 := hml0
  have hown : s.vm.findClass "java/lang/Record" = some m.cls := findClass_of_methodNamed Bd.named
  have hnm := (name_of_methodNamed Bd.named Bd.method).1
  have X0 : Stand p l e ({ frames := 1, cells := 0, slots := 0, locals := 12 } : Room) s m #[(.ref a1)] below meth c s₁ [] 0 0 := Stand.of_body Bd
  have e0 : s₁.heap = h0 := by rw [← hh, Bd.state]; rfl
  have N0 := Fr.nil n0
  refine own_in (Q := own_Qp none h0 n0) ?_
  rw [own_ef2]
  show own_G _ _ _ _ _ _ _ (s₁.setTop (mkF m 0 #[.val (.ref a1)] []))
  refine own_st (fun t k => XS.aloadN X0.here hx rfl (hb hby own_d2_0) rfl rfl k) ?_
  show own_G _ _ _ _ _ _ _ (s₁.setTop (mkF m 1 #[.val (.ref a1)] [(.ref a1)]))
  obtain ⟨T1, X1, e1, st1⟩ := initO X0 hx hZ hown (hw _ (List.mem_of_getElem? (i := 12) rfl)) (hw _ (List.mem_of_getElem? (i := 13) rfl)) (hw _ (List.mem_of_getElem? (i := 14) rfl)) e0 (g := (mkF m 1 #[.val (.ref a1)] [(.ref a1)])) rfl (by rw [hml]; rfl) rfl (hb hby own_d2_1) (by decide) (W := 0) (by show 2 * 0 + _ ≤ _; exact Nat.le_of_eq rfl) (by decide)
  refine own_st (fun t k => st1 t k) ?_
  show own_G _ _ _ _ _ _ _ (T1.setTop (mkF m 4 #[.val (.ref a1)] []))
  exact own_retV X1 hx Bd.returns (BodyLoose.notSynchronized Bd) (hb hby own_d2_4) (by decide) (by decide) ⟨rfl, N0, e1⟩
theorem own_pd4 : parseMethodDescriptor "()V" = some ⟨[], none⟩ := by decide +kernel
def own_Q1 (Z : State) (a1 : Addr) (p1 : Int32) (b1 : Addr) (p2 p3 : Int32) (h0 : Heap) (n0 : Nat) (v : Option Value) (h : Heap) (L : List Loc) : Prop := v = none ∧ Fr n0 L ∧ Keep h0 h [a1] ∧ Exa Z h a1 "com/example/groveledger/groveledger/Lines$Line" ∧ Fld Z h a1 "com/example/groveledger/groveledger/Lines$Line" "number" "I" (.int p1) ∧ Fld Z h a1 "com/example/groveledger/groveledger/Lines$Line" "text" "[B" (.ref b1) ∧ Fld Z h a1 "com/example/groveledger/groveledger/Lines$Line" "ended" "Z" (.int (nar .boolean p2)) ∧ Fld Z h a1 "com/example/groveledger/groveledger/Lines$Line" "tooLong" "Z" (.int (nar .boolean p3))
theorem own_pn1 : plainName "com/example/groveledger/groveledger/Lines$Line" = true := by first | (simp [plainName, overriddenIn]; done) | decide +kernel
theorem own_d1_0 : decode prog_7_method_1_code 0 = .ok (.aload_n 0, 1) := by decide +kernel
theorem own_d1_1 : decode prog_7_method_1_code 1 = .ok (.invokespecial 1, 3) := by decide +kernel
theorem own_d1_4 : decode prog_7_method_1_code 4 = .ok (.aload_n 0, 1) := by decide +kernel
theorem own_d1_5 : decode prog_7_method_1_code 5 = .ok (.iload_n 1, 1) := by decide +kernel
theorem own_d1_6 : decode prog_7_method_1_code 6 = .ok (.putfield 7, 3) := by decide +kernel
theorem own_d1_9 : decode prog_7_method_1_code 9 = .ok (.aload_n 0, 1) := by decide +kernel
theorem own_d1_10 : decode prog_7_method_1_code 10 = .ok (.aload_n 2, 1) := by decide +kernel
theorem own_d1_11 : decode prog_7_method_1_code 11 = .ok (.putfield 13, 3) := by decide +kernel
theorem own_d1_14 : decode prog_7_method_1_code 14 = .ok (.aload_n 0, 1) := by decide +kernel
theorem own_d1_15 : decode prog_7_method_1_code 15 = .ok (.iload_n 3, 1) := by decide +kernel
theorem own_d1_16 : decode prog_7_method_1_code 16 = .ok (.putfield 17, 3) := by decide +kernel
theorem own_d1_19 : decode prog_7_method_1_code 19 = .ok (.aload_n 0, 1) := by decide +kernel
theorem own_d1_20 : decode prog_7_method_1_code 20 = .ok (.iload 4, 2) := by decide +kernel
theorem own_d1_22 : decode prog_7_method_1_code 22 = .ok (.putfield 21, 3) := by decide +kernel
theorem own_d1_25 : decode prog_7_method_1_code 25 = .ok (.return_, 1) := by decide +kernel
theorem own_ef1 (m : MethodId) (a1 : Addr) (p1 : Int32) (b1 : Addr) (p2 : Int32) (p3 : Int32) : entryFrame m #[(.ref a1), (.int p1), (.ref b1), (.int p2), (.int p3)] 5 = mkF m 0 #[.val (.ref a1), .val (.int p1), .val (.ref b1), .val (.int p2), .val (.int p3)] [] := by first | (simp [entryFrame, mkF, argsToLocals, Value.category]; done) | rfl
set_option maxRecDepth 65536 in
set_option maxHeartbeats 40000000 in
theorem own_rm1 (l : Launch) (Z : State) (a0 : Array Value) (hw : ∀ d ∈ tables_1, d.before a0 Z = true) (ws : List Jvm.Cond) (a1 : Addr) (p1 : Int32) (b1 : Addr) (p2 p3 : Int32) (h0 : Heap) (n0 : Nat) (Z0 : n0 ≤ h0.size) (E1 : Exa Z h0 a1 "com/example/groveledger/groveledger/Lines$Line") (F_number : Fld Z h0 a1 "com/example/groveledger/groveledger/Lines$Line" "number" "I" (.int 0)) (F_text : Fld Z h0 a1 "com/example/groveledger/groveledger/Lines$Line" "text" "[B" .null) (F_ended : Fld Z h0 a1 "com/example/groveledger/groveledger/Lines$Line" "ended" "Z" (.int 0)) (F_tooLong : Fld Z h0 a1 "com/example/groveledger/groveledger/Lines$Line" "tooLong" "Z" (.int 0)) (g1 : n0 ≤ a1) :
    MetFree l (⟨"com/example/groveledger/groveledger/Lines$Line", "<init>", "(I[BZZ)V"⟩ : MethodName) (head1 (Jvm.Cond.code (⟨"com/example/groveledger/groveledger/Lines$Line", "<init>", "(I[BZZ)V"⟩ : MethodName) prog_7_method_1_code 5 none :: ws) ({ frames := 2, cells := 0, slots := 0, locals := 24 } : Room)) (fun a U => a = #[(.ref a1), (.int p1), (.ref b1), (.int p2), (.int p3)] ∧ Z.Warmed39 U.vm ∧ U.heap = h0) (fun _ _ _ _ _ => True) (fun _ U o U' => ∃ v L, o = .returned v ∧ own_Q1 Z a1 p1 b1 p2 p3 h0 n0 v U'.heap L ∧ FrameEnd U o U' L ({ frames := 2, cells := 0, slots := 0, locals := 24 } : Room).cells ({ frames := 2, cells := 0, slots := 0, locals := 24 } : Room).slots) := by
  refine MetFree.of_bodySF (plainFor_of_name own_pn1) hisR ?_
  intro p e s m args below meth c s₁ Bd hml0 hP hK
  obtain ⟨rfl, hZ, hh⟩ := hP
  have hx := Bd.exec
  have hby := Bd.bytes
  have hml : c.maxLocals = 5 := hml0
  have hown : s.vm.findClass "com/example/groveledger/groveledger/Lines$Line" = some m.cls := findClass_of_methodNamed Bd.named
  have hnm := (name_of_methodNamed Bd.named Bd.method).1
  have X0 : Stand p l e ({ frames := 2, cells := 0, slots := 0, locals := 24 } : Room) s m #[(.ref a1), (.int p1), (.ref b1), (.int p2), (.int p3)] below meth c s₁ [] 0 0 := Stand.of_body Bd
  have e0 : s₁.heap = h0 := by rw [← hh, Bd.state]; rfl
  have N0 := Fr.nil n0
  refine own_in (Q := own_Q1 Z a1 p1 b1 p2 p3 h0 n0) ?_
  rw [own_ef1]
  show own_G _ _ _ _ _ _ _ (s₁.setTop (mkF m 0 #[.val (.ref a1), .val (.int p1), .val (.ref b1), .val (.int p2), .val (.int p3)] []))
  refine own_st (fun t k => XS.aloadN X0.here hx rfl (hb hby own_d1_0) rfl rfl k) ?_
  show own_G _ _ _ _ _ _ _ (s₁.setTop (mkF m 1 #[.val (.ref a1), .val (.int p1), .val (.ref b1), .val (.int p2), .val (.int p3)] [(.ref a1)]))
  obtain ⟨_, _, ⟨T2, L2, k2, n2⟩, -, X2, ⟨Lc2, hQ2, l2, y2, z2⟩, st2⟩ := X0.specialBack hx (y := (⟨"java/lang/Record", "<init>", "()V"⟩ : MethodName)) rfl hown (mvT hZ (hw _ (List.mem_of_getElem? (i := 7) rfl))) (mvT hZ (hw _ (List.mem_of_getElem? (i := 8) rfl))) (mvT hZ (hw _ (List.mem_of_getElem? (i := 11) rfl))) (by decide) (backOf (W := 0) (own_rm2 l Z a0 hw [] a1 h0 n0 Z0) hZ (hw _ (List.mem_of_getElem? (i := 11) rfl)) (hw _ (List.mem_of_getElem? (i := 10) rfl)) (by decide) (by decide)) (g := (mkF m 1 #[.val (.ref a1), .val (.int p1), .val (.ref b1), .val (.int p2), .val (.int p3)] [(.ref a1)])) rfl (by rw [hml]; rfl) (Steps.refl _) (a := a1) (argsL := []) (rest := []) (lenOf own_pd4 rfl) rfl (by show 2 * 0 + _ ≤ _; exact Nat.le_of_eq rfl) (hb hby own_d1_1) (fun _ _ => ⟨rfl, e0, (by decide : 0 + 0 ≤ _), (by decide : 0 + 0 ≤ _)⟩)
  dsimp only [Pt.U, Pt.locs, Pt.cells, Pt.slots] at X2 l2 y2 z2 st2 hQ2
  subst l2 y2 z2
  obtain ⟨rfl, N2q, e2⟩ := hQ2
  have N2 := Fr.app N0 N2q
  refine own_st (fun t k => st2.trans k) ?_
  show own_G _ _ _ _ _ _ _ (T2.setTop (mkF m 4 #[.val (.ref a1), .val (.int p1), .val (.ref b1), .val (.int p2), .val (.int p3)] []))
  refine own_st (fun t k => XS.aloadN X2.here hx rfl (hb hby own_d1_4) rfl rfl k) ?_
  show own_G _ _ _ _ _ _ _ (T2.setTop (mkF m 5 #[.val (.ref a1), .val (.int p1), .val (.ref b1), .val (.int p2), .val (.int p3)] [(.ref a1)]))
  refine own_st (fun t k => XS.iloadN X2.here hx rfl (hb hby own_d1_5) rfl k) ?_
  show own_G _ _ _ _ _ _ _ (T2.setTop (mkF m 6 #[.val (.ref a1), .val (.int p1), .val (.ref b1), .val (.int p2), .val (.int p3)] [(.int p1), (.ref a1)]))
  obtain ⟨T3, h3, X3, e3, W3, st3⟩ := putF X2 hx hZ hown (host := "") (Or.inl (hw _ (List.mem_of_getElem? (i := 15) rfl))) Via.refl e2 F_number E1 (Or.inr ⟨(hw _ (List.mem_of_getElem? (i := 16) rfl)), rfl, hnm⟩) (hw _ (List.mem_of_getElem? (i := 2) rfl)) (ty := .int) (by decide) rfl rfl (g := (mkF m 6 #[.val (.ref a1), .val (.int p1), .val (.ref b1), .val (.int p2), .val (.int p3)] [(.int p1), (.ref a1)])) rfl rfl (hb hby own_d1_6)
  have N3 := Fr.snoc X3 N2 g1
  refine own_st (fun t k => st3 t k) ?_
  show own_G _ _ _ _ _ _ _ (T3.setTop (mkF m 9 #[.val (.ref a1), .val (.int p1), .val (.ref b1), .val (.int p2), .val (.int p3)] []))
  have E_4 := E1.wr W3
  have fnumber_5 := F_number.same W3
  have ftext_6 := F_text.other W3 (Or.inr (slot_ne (Or.inr (hw _ (List.mem_of_getElem? (i := 18) rfl))) (Or.inr (hw _ (List.mem_of_getElem? (i := 16) rfl))) (by decide) (t := (.array .byte)) (t' := .int) (by decide) (by decide)))
  have fended_7 := F_ended.other W3 (Or.inr (slot_ne (Or.inr (hw _ (List.mem_of_getElem? (i := 20) rfl))) (Or.inr (hw _ (List.mem_of_getElem? (i := 16) rfl))) (by decide) (t := .boolean) (t' := .int) (by decide) (by decide)))
  have ftooLong_8 := F_tooLong.other W3 (Or.inr (slot_ne (Or.inr (hw _ (List.mem_of_getElem? (i := 22) rfl))) (Or.inr (hw _ (List.mem_of_getElem? (i := 16) rfl))) (by decide) (t := .boolean) (t' := .int) (by decide) (by decide)))
  have Zz9 : n0 ≤ h3.size := Nat.le_trans Z0 (Keep.of_wr W3).1
  have Kk10 := (Keep.refl h0 [a1]).wr W3 (Or.inl (List.mem_of_getElem? (i := 0) rfl))
  refine own_st (fun t k => XS.aloadN X3.here hx rfl (hb hby own_d1_9) rfl rfl k) ?_
  show own_G _ _ _ _ _ _ _ (T3.setTop (mkF m 10 #[.val (.ref a1), .val (.int p1), .val (.ref b1), .val (.int p2), .val (.int p3)] [(.ref a1)]))
  refine own_st (fun t k => XS.aloadN X3.here hx rfl (hb hby own_d1_10) rfl rfl k) ?_
  show own_G _ _ _ _ _ _ _ (T3.setTop (mkF m 11 #[.val (.ref a1), .val (.int p1), .val (.ref b1), .val (.int p2), .val (.int p3)] [(.ref b1), (.ref a1)]))
  obtain ⟨T11, h11, X11, e11, W11, st11⟩ := putF X3 hx hZ hown (host := "") (Or.inl (hw _ (List.mem_of_getElem? (i := 17) rfl))) Via.refl e3 ftext_6 E_4 (Or.inr ⟨(hw _ (List.mem_of_getElem? (i := 18) rfl)), rfl, hnm⟩) (hw _ (List.mem_of_getElem? (i := 2) rfl)) (ty := (.array .byte)) (by decide) rfl rfl (g := (mkF m 11 #[.val (.ref a1), .val (.int p1), .val (.ref b1), .val (.int p2), .val (.int p3)] [(.ref b1), (.ref a1)])) rfl rfl (hb hby own_d1_11)
  have N11 := Fr.snoc X11 N3 g1
  refine own_st (fun t k => st11 t k) ?_
  show own_G _ _ _ _ _ _ _ (T11.setTop (mkF m 14 #[.val (.ref a1), .val (.int p1), .val (.ref b1), .val (.int p2), .val (.int p3)] []))
  have E_12 := E_4.wr W11
  have fnumber_13 := fnumber_5.other W11 (Or.inr (slot_ne (Or.inr (hw _ (List.mem_of_getElem? (i := 16) rfl))) (Or.inr (hw _ (List.mem_of_getElem? (i := 18) rfl))) (by decide) (t := .int) (t' := (.array .byte)) (by decide) (by decide)))
  have ftext_14 := ftext_6.same W11
  have fended_15 := fended_7.other W11 (Or.inr (slot_ne (Or.inr (hw _ (List.mem_of_getElem? (i := 20) rfl))) (Or.inr (hw _ (List.mem_of_getElem? (i := 18) rfl))) (by decide) (t := .boolean) (t' := (.array .byte)) (by decide) (by decide)))
  have ftooLong_16 := ftooLong_8.other W11 (Or.inr (slot_ne (Or.inr (hw _ (List.mem_of_getElem? (i := 22) rfl))) (Or.inr (hw _ (List.mem_of_getElem? (i := 18) rfl))) (by decide) (t := .boolean) (t' := (.array .byte)) (by decide) (by decide)))
  have Zz17 : n0 ≤ h11.size := Nat.le_trans Zz9 (Keep.of_wr W11).1
  have Kk18 := Kk10.wr W11 (Or.inl (List.mem_of_getElem? (i := 0) rfl))
  refine own_st (fun t k => XS.aloadN X11.here hx rfl (hb hby own_d1_14) rfl rfl k) ?_
  show own_G _ _ _ _ _ _ _ (T11.setTop (mkF m 15 #[.val (.ref a1), .val (.int p1), .val (.ref b1), .val (.int p2), .val (.int p3)] [(.ref a1)]))
  refine own_st (fun t k => XS.iloadN X11.here hx rfl (hb hby own_d1_15) rfl k) ?_
  show own_G _ _ _ _ _ _ _ (T11.setTop (mkF m 16 #[.val (.ref a1), .val (.int p1), .val (.ref b1), .val (.int p2), .val (.int p3)] [(.int p2), (.ref a1)]))
  obtain ⟨T19, h19, X19, e19, W19, st19⟩ := putFN X11 hx hZ hown (hw _ (List.mem_of_getElem? (i := 19) rfl)) Via.refl e11 fended_15 E_12 (Or.inr ⟨(hw _ (List.mem_of_getElem? (i := 20) rfl)), rfl, hnm⟩) (hw _ (List.mem_of_getElem? (i := 2) rfl)) (ty := .boolean) (v' := (.int (nar .boolean p2))) (by decide) rfl (fits_nar_bool _) (g := (mkF m 16 #[.val (.ref a1), .val (.int p1), .val (.ref b1), .val (.int p2), .val (.int p3)] [(.int p2), (.ref a1)])) rfl rfl (hb hby own_d1_16)
  have N19 := Fr.snoc X19 N11 g1
  refine own_st (fun t k => st19 t k) ?_
  show own_G _ _ _ _ _ _ _ (T19.setTop (mkF m 19 #[.val (.ref a1), .val (.int p1), .val (.ref b1), .val (.int p2), .val (.int p3)] []))
  have E_20 := E_12.wr W19
  have fnumber_21 := fnumber_13.other W19 (Or.inr (slot_ne (Or.inr (hw _ (List.mem_of_getElem? (i := 16) rfl))) (Or.inr (hw _ (List.mem_of_getElem? (i := 20) rfl))) (by decide) (t := .int) (t' := .boolean) (by decide) (by decide)))
  have ftext_22 := ftext_14.other W19 (Or.inr (slot_ne (Or.inr (hw _ (List.mem_of_getElem? (i := 18) rfl))) (Or.inr (hw _ (List.mem_of_getElem? (i := 20) rfl))) (by decide) (t := (.array .byte)) (t' := .boolean) (by decide) (by decide)))
  have fended_23 := fended_15.same W19
  have ftooLong_24 := ftooLong_16.other W19 (Or.inr (slot_ne (Or.inr (hw _ (List.mem_of_getElem? (i := 22) rfl))) (Or.inr (hw _ (List.mem_of_getElem? (i := 20) rfl))) (by decide) (t := .boolean) (t' := .boolean) (by decide) (by decide)))
  have Zz25 : n0 ≤ h19.size := Nat.le_trans Zz17 (Keep.of_wr W19).1
  have Kk26 := Kk18.wr W19 (Or.inl (List.mem_of_getElem? (i := 0) rfl))
  refine own_st (fun t k => XS.aloadN X19.here hx rfl (hb hby own_d1_19) rfl rfl k) ?_
  show own_G _ _ _ _ _ _ _ (T19.setTop (mkF m 20 #[.val (.ref a1), .val (.int p1), .val (.ref b1), .val (.int p2), .val (.int p3)] [(.ref a1)]))
  refine own_st (fun t k => XS.iload X19.here hx rfl (hb hby own_d1_20) rfl k) ?_
  show own_G _ _ _ _ _ _ _ (T19.setTop (mkF m 22 #[.val (.ref a1), .val (.int p1), .val (.ref b1), .val (.int p2), .val (.int p3)] [(.int p3), (.ref a1)]))
  obtain ⟨T27, h27, X27, e27, W27, st27⟩ := putFN X19 hx hZ hown (hw _ (List.mem_of_getElem? (i := 21) rfl)) Via.refl e19 ftooLong_24 E_20 (Or.inr ⟨(hw _ (List.mem_of_getElem? (i := 22) rfl)), rfl, hnm⟩) (hw _ (List.mem_of_getElem? (i := 2) rfl)) (ty := .boolean) (v' := (.int (nar .boolean p3))) (by decide) rfl (fits_nar_bool _) (g := (mkF m 22 #[.val (.ref a1), .val (.int p1), .val (.ref b1), .val (.int p2), .val (.int p3)] [(.int p3), (.ref a1)])) rfl rfl (hb hby own_d1_22)
  have N27 := Fr.snoc X27 N19 g1
  refine own_st (fun t k => st27 t k) ?_
  show own_G _ _ _ _ _ _ _ (T27.setTop (mkF m 25 #[.val (.ref a1), .val (.int p1), .val (.ref b1), .val (.int p2), .val (.int p3)] []))
  have E_28 := E_20.wr W27
  have fnumber_29 := fnumber_21.other W27 (Or.inr (slot_ne (Or.inr (hw _ (List.mem_of_getElem? (i := 16) rfl))) (Or.inr (hw _ (List.mem_of_getElem? (i := 22) rfl))) (by decide) (t := .int) (t' := .boolean) (by decide) (by decide)))
  have ftext_30 := ftext_22.other W27 (Or.inr (slot_ne (Or.inr (hw _ (List.mem_of_getElem? (i := 18) rfl))) (Or.inr (hw _ (List.mem_of_getElem? (i := 22) rfl))) (by decide) (t := (.array .byte)) (t' := .boolean) (by decide) (by decide)))
  have fended_31 := fended_23.other W27 (Or.inr (slot_ne (Or.inr (hw _ (List.mem_of_getElem? (i := 20) rfl))) (Or.inr (hw _ (List.mem_of_getElem? (i := 22) rfl))) (by decide) (t := .boolean) (t' := .boolean) (by decide) (by decide)))
  have ftooLong_32 := ftooLong_24.same W27
  have Zz33 : n0 ≤ h27.size := Nat.le_trans Zz25 (Keep.of_wr W27).1
  have Kk34 := Kk26.wr W27 (Or.inl (List.mem_of_getElem? (i := 0) rfl))
  subst e27
  exact own_retV X27 hx Bd.returns (BodyLoose.notSynchronized Bd) (hb hby own_d1_25) (by decide) (by decide) ⟨rfl, N27, Kk34, E_28, fnumber_29, ftext_30, fended_31, ftooLong_32⟩
theorem own_d3_0 : decode prog_7_method_2_code 0 = .ok (.aload_n 0, 1) := by decide +kernel
theorem own_d3_1 : decode prog_7_method_2_code 1 = .ok (.getfield 21, 3) := by decide +kernel
theorem own_d3_4 : decode prog_7_method_2_code 4 = .ok (.ifCond .eq 9, 3) := by decide +kernel
theorem own_d3_7 : decode prog_7_method_2_code 7 = .ok (.ldc 24, 2) := by decide +kernel
theorem own_d3_9 : decode prog_7_method_2_code 9 = .ok (.invokestatic 26, 3) := by decide +kernel
theorem own_d3_12 : decode prog_7_method_2_code 12 = .ok (.athrow, 1) := by decide +kernel
theorem own_d3_13 : decode prog_7_method_2_code 13 = .ok (.aload_n 0, 1) := by decide +kernel
theorem own_d3_14 : decode prog_7_method_2_code 14 = .ok (.getfield 13, 3) := by decide +kernel
theorem own_d3_17 : decode prog_7_method_2_code 17 = .ok (.areturn, 1) := by decide +kernel
theorem own_ef3 (m : MethodId) (a1 : Addr) : entryFrame m #[(.ref a1)] 1 = mkF m 0 #[.val (.ref a1)] [] := by first | (simp [entryFrame, mkF, argsToLocals, Value.category]; done) | rfl
set_option maxRecDepth 65536 in
set_option maxHeartbeats 40000000 in
theorem own_rm3 (l : Launch) (Z : State) (a0 : Array Value) (hw : ∀ d ∈ tables_1, d.before a0 Z = true) (ws : List Jvm.Cond) (a1 b1 : Addr) (h0 : Heap) (n0 : Nat) (Z0 : n0 ≤ h0.size) (F1 : Fld Z h0 a1 "com/example/groveledger/groveledger/Lines$Line" "tooLong" "Z" (.int 0)) (F2 : Fld Z h0 a1 "com/example/groveledger/groveledger/Lines$Line" "text" "[B" (.ref b1)) :
    MetFree l (⟨"com/example/groveledger/groveledger/Lines$Line", "whole", "()[B"⟩ : MethodName) (head1 (Jvm.Cond.code (⟨"com/example/groveledger/groveledger/Lines$Line", "whole", "()[B"⟩ : MethodName) prog_7_method_2_code 1 (some (.array .byte)) :: ws) ({ frames := 0, cells := 0, slots := 0, locals := 0 } : Room)) (fun a U => a = #[(.ref a1)] ∧ Z.Warmed39 U.vm ∧ U.heap = h0) (fun _ _ _ _ _ => True) (fun _ U o U' => ∃ v L, o = .returned v ∧ own_Qp (some (.ref b1)) h0 n0 v U'.heap L ∧ FrameEnd U o U' L ({ frames := 0, cells := 0, slots := 0, locals := 0 } : Room).cells ({ frames := 0, cells := 0, slots := 0, locals := 0 } : Room).slots) := by
  refine MetFree.of_bodySF (plainFor_of_name own_pn1) hisR ?_
  intro p e s m args below meth c s₁ Bd hml0 hP hK
  obtain ⟨rfl, hZ, hh⟩ := hP
  have hx := Bd.exec
  have hby := Bd.bytes
  have hml : c.maxLocals = 1 := hml0
  have hown : s.vm.findClass "com/example/groveledger/groveledger/Lines$Line" = some m.cls := findClass_of_methodNamed Bd.named
  have hnm := (name_of_methodNamed Bd.named Bd.method).1
  have X0 : Stand p l e ({ frames := 0, cells := 0, slots := 0, locals := 0 } : Room) s m #[(.ref a1)] below meth c s₁ [] 0 0 := Stand.of_body Bd
  have e0 : s₁.heap = h0 := by rw [← hh, Bd.state]; rfl
  have N0 := Fr.nil n0
  refine own_in (Q := own_Qp (some (.ref b1)) h0 n0) ?_
  rw [own_ef3]
  show own_G _ _ _ _ _ _ _ (s₁.setTop (mkF m 0 #[.val (.ref a1)] []))
  refine own_st (fun t k => XS.aloadN X0.here hx rfl (hb hby own_d3_0) rfl rfl k) ?_
  show own_G _ _ _ _ _ _ _ (s₁.setTop (mkF m 1 #[.val (.ref a1)] [(.ref a1)]))
  obtain ⟨T35, X35, e35, st35⟩ := getF X0 hx hZ hown (host := "") (Or.inl (hw _ (List.mem_of_getElem? (i := 21) rfl))) Via.refl e0 F1 (g := (mkF m 1 #[.val (.ref a1)] [(.ref a1)])) rfl rfl (hb hby own_d3_1)
  refine own_st (fun t k => st35 t k) ?_
  show own_G _ _ _ _ _ _ _ (T35.setTop (mkF m 4 #[.val (.ref a1)] [(.int (0 : Int32))]))
  refine own_st (fun t k => XS.ifYes X35.here hx rfl (pc0 := 4) (pc' := 13) rfl (hb hby own_d3_4) rfl ((if0 _ _).trans (teq rfl).1) (by decide) (by decide) k) ?_
  show own_G _ _ _ _ _ _ _ (T35.setTop (mkF m 13 #[.val (.ref a1)] []))
  refine own_st (fun t k => XS.aloadN X35.here hx rfl (hb hby own_d3_13) rfl rfl k) ?_
  show own_G _ _ _ _ _ _ _ (T35.setTop (mkF m 14 #[.val (.ref a1)] [(.ref a1)]))
  obtain ⟨T36, X36, e36, st36⟩ := getF X35 hx hZ hown (host := "") (Or.inl (hw _ (List.mem_of_getElem? (i := 17) rfl))) Via.refl e35 F2 (g := (mkF m 14 #[.val (.ref a1)] [(.ref a1)])) rfl rfl (hb hby own_d3_14)
  refine own_st (fun t k => st36 t k) ?_
  show own_G _ _ _ _ _ _ _ (T36.setTop (mkF m 17 #[.val (.ref a1)] [(.ref b1)]))
  exact own_retA (ft := (.array .byte)) (w := (.ref b1)) rfl rfl X36 hx Bd.returns (BodyLoose.notSynchronized Bd) (hb hby own_d3_17) (by decide) (by decide) ⟨rfl, N0, e36⟩
theorem own_d4_0 : decode prog_7_method_6_code 0 = .ok (.aload_n 0, 1) := by decide +kernel
theorem own_d4_1 : decode prog_7_method_6_code 1 = .ok (.getfield 7, 3) := by decide +kernel
theorem own_d4_4 : decode prog_7_method_6_code 4 = .ok (.ireturn, 1) := by decide +kernel
theorem own_ef4 (m : MethodId) (a1 : Addr) : entryFrame m #[(.ref a1)] 1 = mkF m 0 #[.val (.ref a1)] [] := by first | (simp [entryFrame, mkF, argsToLocals, Value.category]; done) | rfl
set_option maxRecDepth 65536 in
set_option maxHeartbeats 40000000 in
theorem own_rm4 (l : Launch) (Z : State) (a0 : Array Value) (hw : ∀ d ∈ tables_1, d.before a0 Z = true) (ws : List Jvm.Cond) (a1 : Addr) (p1 : Int32) (h0 : Heap) (n0 : Nat) (Z0 : n0 ≤ h0.size) (F1 : Fld Z h0 a1 "com/example/groveledger/groveledger/Lines$Line" "number" "I" (.int p1)) :
    MetFree l (⟨"com/example/groveledger/groveledger/Lines$Line", "number", "()I"⟩ : MethodName) (head1 (Jvm.Cond.code (⟨"com/example/groveledger/groveledger/Lines$Line", "number", "()I"⟩ : MethodName) prog_7_method_6_code 1 (some .int) :: ws) ({ frames := 0, cells := 0, slots := 0, locals := 0 } : Room)) (fun a U => a = #[(.ref a1)] ∧ Z.Warmed39 U.vm ∧ U.heap = h0) (fun _ _ _ _ _ => True) (fun _ U o U' => ∃ v L, o = .returned v ∧ own_Qp (some (.int p1)) h0 n0 v U'.heap L ∧ FrameEnd U o U' L ({ frames := 0, cells := 0, slots := 0, locals := 0 } : Room).cells ({ frames := 0, cells := 0, slots := 0, locals := 0 } : Room).slots) := by
  refine MetFree.of_bodySF (plainFor_of_name own_pn1) hisR ?_
  intro p e s m args below meth c s₁ Bd hml0 hP hK
  obtain ⟨rfl, hZ, hh⟩ := hP
  have hx := Bd.exec
  have hby := Bd.bytes
  have hml : c.maxLocals = 1 := hml0
  have hown : s.vm.findClass "com/example/groveledger/groveledger/Lines$Line" = some m.cls := findClass_of_methodNamed Bd.named
  have hnm := (name_of_methodNamed Bd.named Bd.method).1
  have X0 : Stand p l e ({ frames := 0, cells := 0, slots := 0, locals := 0 } : Room) s m #[(.ref a1)] below meth c s₁ [] 0 0 := Stand.of_body Bd
  have e0 : s₁.heap = h0 := by rw [← hh, Bd.state]; rfl
  have N0 := Fr.nil n0
  refine own_in (Q := own_Qp (some (.int p1)) h0 n0) ?_
  rw [own_ef4]
  show own_G _ _ _ _ _ _ _ (s₁.setTop (mkF m 0 #[.val (.ref a1)] []))
  refine own_st (fun t k => XS.aloadN X0.here hx rfl (hb hby own_d4_0) rfl rfl k) ?_
  show own_G _ _ _ _ _ _ _ (s₁.setTop (mkF m 1 #[.val (.ref a1)] [(.ref a1)]))
  obtain ⟨T37, X37, e37, st37⟩ := getF X0 hx hZ hown (host := "") (Or.inl (hw _ (List.mem_of_getElem? (i := 15) rfl))) Via.refl e0 F1 (g := (mkF m 1 #[.val (.ref a1)] [(.ref a1)])) rfl rfl (hb hby own_d4_1)
  refine own_st (fun t k => st37 t k) ?_
  show own_G _ _ _ _ _ _ _ (T37.setTop (mkF m 4 #[.val (.ref a1)] [(.int p1)]))
  exact own_retI X37 hx Bd.returns (BodyLoose.notSynchronized Bd) (hb hby own_d4_4) (by decide) (by decide) ⟨rfl, N0, e37⟩
theorem own_d5_0 : decode prog_7_method_8_code 0 = .ok (.aload_n 0, 1) := by decide +kernel
theorem own_d5_1 : decode prog_7_method_8_code 1 = .ok (.getfield 17, 3) := by decide +kernel
theorem own_d5_4 : decode prog_7_method_8_code 4 = .ok (.ireturn, 1) := by decide +kernel
theorem own_ef5 (m : MethodId) (a1 : Addr) : entryFrame m #[(.ref a1)] 1 = mkF m 0 #[.val (.ref a1)] [] := by first | (simp [entryFrame, mkF, argsToLocals, Value.category]; done) | rfl
set_option maxRecDepth 65536 in
set_option maxHeartbeats 40000000 in
theorem own_rm5 (l : Launch) (Z : State) (a0 : Array Value) (hw : ∀ d ∈ tables_1, d.before a0 Z = true) (ws : List Jvm.Cond) (a1 : Addr) (p1 : Int32) (h0 : Heap) (n0 : Nat) (Z0 : n0 ≤ h0.size) (F1 : Fld Z h0 a1 "com/example/groveledger/groveledger/Lines$Line" "ended" "Z" (.int p1)) :
    MetFree l (⟨"com/example/groveledger/groveledger/Lines$Line", "ended", "()Z"⟩ : MethodName) (head1 (Jvm.Cond.code (⟨"com/example/groveledger/groveledger/Lines$Line", "ended", "()Z"⟩ : MethodName) prog_7_method_8_code 1 (some .boolean) :: ws) ({ frames := 0, cells := 0, slots := 0, locals := 0 } : Room)) (fun a U => a = #[(.ref a1)] ∧ Z.Warmed39 U.vm ∧ U.heap = h0) (fun _ _ _ _ _ => True) (fun _ U o U' => ∃ v L, o = .returned v ∧ own_Qp (some (.int (nar .boolean p1))) h0 n0 v U'.heap L ∧ FrameEnd U o U' L ({ frames := 0, cells := 0, slots := 0, locals := 0 } : Room).cells ({ frames := 0, cells := 0, slots := 0, locals := 0 } : Room).slots) := by
  refine MetFree.of_bodySF (plainFor_of_name own_pn1) hisR ?_
  intro p e s m args below meth c s₁ Bd hml0 hP hK
  obtain ⟨rfl, hZ, hh⟩ := hP
  have hx := Bd.exec
  have hby := Bd.bytes
  have hml : c.maxLocals = 1 := hml0
  have hown : s.vm.findClass "com/example/groveledger/groveledger/Lines$Line" = some m.cls := findClass_of_methodNamed Bd.named
  have hnm := (name_of_methodNamed Bd.named Bd.method).1
  have X0 : Stand p l e ({ frames := 0, cells := 0, slots := 0, locals := 0 } : Room) s m #[(.ref a1)] below meth c s₁ [] 0 0 := Stand.of_body Bd
  have e0 : s₁.heap = h0 := by rw [← hh, Bd.state]; rfl
  have N0 := Fr.nil n0
  refine own_in (Q := own_Qp (some (.int (nar .boolean p1))) h0 n0) ?_
  rw [own_ef5]
  show own_G _ _ _ _ _ _ _ (s₁.setTop (mkF m 0 #[.val (.ref a1)] []))
  refine own_st (fun t k => XS.aloadN X0.here hx rfl (hb hby own_d5_0) rfl rfl k) ?_
  show own_G _ _ _ _ _ _ _ (s₁.setTop (mkF m 1 #[.val (.ref a1)] [(.ref a1)]))
  obtain ⟨T38, X38, e38, st38⟩ := getF X0 hx hZ hown (host := "") (Or.inl (hw _ (List.mem_of_getElem? (i := 19) rfl))) Via.refl e0 F1 (g := (mkF m 1 #[.val (.ref a1)] [(.ref a1)])) rfl rfl (hb hby own_d5_1)
  refine own_st (fun t k => st38 t k) ?_
  show own_G _ _ _ _ _ _ _ (T38.setTop (mkF m 4 #[.val (.ref a1)] [(.int p1)]))
  exact own_retN (t := .boolean) (by simp) X38 hx Bd.returns (BodyLoose.notSynchronized Bd) (hb hby own_d5_4) (by decide) (by decide) ⟨rfl, N0, e38⟩
theorem own_d6_0 : decode prog_7_method_9_code 0 = .ok (.aload_n 0, 1) := by decide +kernel
theorem own_d6_1 : decode prog_7_method_9_code 1 = .ok (.getfield 21, 3) := by decide +kernel
theorem own_d6_4 : decode prog_7_method_9_code 4 = .ok (.ireturn, 1) := by decide +kernel
theorem own_ef6 (m : MethodId) (a1 : Addr) : entryFrame m #[(.ref a1)] 1 = mkF m 0 #[.val (.ref a1)] [] := by first | (simp [entryFrame, mkF, argsToLocals, Value.category]; done) | rfl
set_option maxRecDepth 65536 in
set_option maxHeartbeats 40000000 in
theorem own_rm6 (l : Launch) (Z : State) (a0 : Array Value) (hw : ∀ d ∈ tables_1, d.before a0 Z = true) (ws : List Jvm.Cond) (a1 : Addr) (p1 : Int32) (h0 : Heap) (n0 : Nat) (Z0 : n0 ≤ h0.size) (F1 : Fld Z h0 a1 "com/example/groveledger/groveledger/Lines$Line" "tooLong" "Z" (.int p1)) :
    MetFree l (⟨"com/example/groveledger/groveledger/Lines$Line", "tooLong", "()Z"⟩ : MethodName) (head1 (Jvm.Cond.code (⟨"com/example/groveledger/groveledger/Lines$Line", "tooLong", "()Z"⟩ : MethodName) prog_7_method_9_code 1 (some .boolean) :: ws) ({ frames := 0, cells := 0, slots := 0, locals := 0 } : Room)) (fun a U => a = #[(.ref a1)] ∧ Z.Warmed39 U.vm ∧ U.heap = h0) (fun _ _ _ _ _ => True) (fun _ U o U' => ∃ v L, o = .returned v ∧ own_Qp (some (.int (nar .boolean p1))) h0 n0 v U'.heap L ∧ FrameEnd U o U' L ({ frames := 0, cells := 0, slots := 0, locals := 0 } : Room).cells ({ frames := 0, cells := 0, slots := 0, locals := 0 } : Room).slots) := by
  refine MetFree.of_bodySF (plainFor_of_name own_pn1) hisR ?_
  intro p e s m args below meth c s₁ Bd hml0 hP hK
  obtain ⟨rfl, hZ, hh⟩ := hP
  have hx := Bd.exec
  have hby := Bd.bytes
  have hml : c.maxLocals = 1 := hml0
  have hown : s.vm.findClass "com/example/groveledger/groveledger/Lines$Line" = some m.cls := findClass_of_methodNamed Bd.named
  have hnm := (name_of_methodNamed Bd.named Bd.method).1
  have X0 : Stand p l e ({ frames := 0, cells := 0, slots := 0, locals := 0 } : Room) s m #[(.ref a1)] below meth c s₁ [] 0 0 := Stand.of_body Bd
  have e0 : s₁.heap = h0 := by rw [← hh, Bd.state]; rfl
  have N0 := Fr.nil n0
  refine own_in (Q := own_Qp (some (.int (nar .boolean p1))) h0 n0) ?_
  rw [own_ef6]
  show own_G _ _ _ _ _ _ _ (s₁.setTop (mkF m 0 #[.val (.ref a1)] []))
  refine own_st (fun t k => XS.aloadN X0.here hx rfl (hb hby own_d6_0) rfl rfl k) ?_
  show own_G _ _ _ _ _ _ _ (s₁.setTop (mkF m 1 #[.val (.ref a1)] [(.ref a1)]))
  obtain ⟨T39, X39, e39, st39⟩ := getF X0 hx hZ hown (host := "") (Or.inl (hw _ (List.mem_of_getElem? (i := 21) rfl))) Via.refl e0 F1 (g := (mkF m 1 #[.val (.ref a1)] [(.ref a1)])) rfl rfl (hb hby own_d6_1)
  refine own_st (fun t k => st39 t k) ?_
  show own_G _ _ _ _ _ _ _ (T39.setTop (mkF m 4 #[.val (.ref a1)] [(.int p1)]))
  exact own_retN (t := .boolean) (by simp) X39 hx Bd.returns (BodyLoose.notSynchronized Bd) (hb hby own_d6_4) (by decide) (by decide) ⟨rfl, N0, e39⟩
theorem own_pn2 : plainName "com/example/groveledger/groveledger/LineWholePinLaw" = true := by first | (simp [plainName, overriddenIn]; done) | decide +kernel
theorem own_ef0 (m : MethodId) (p1 : Int32) (p2 : Int32) (p3 : Int32) (p4 : Int32) : entryFrame m #[(.int p1), (.int p2), (.int p3), (.int p4)] maxLocals = mkF m 0 #[.val (.int p1), .val (.int p2), .val (.int p3), .val (.int p4), .unset, .unset, .unset, .unset, .unset, .unset] [] := by first | (simp [entryFrame, mkF, argsToLocals, Value.category, maxLocals]; done) | rfl
set_option maxRecDepth 65536 in
set_option maxHeartbeats 40000000 in
theorem own_rm0 (l : Launch) (Z : State) (a0 : Array Value) (hw : ∀ d ∈ tables_1, d.before a0 Z = true) (ws : List Jvm.Cond) (p1 p2 p3 p4 : Int32) (h0 : Heap) (n0 : Nat) (Z0 : n0 ≤ h0.size)  :
    MetFree l x (head1 (Jvm.Cond.code x code maxLocals ret :: ws) room_1) (fun a U => a = #[(.int p1), (.int p2), (.int p3), (.int p4)] ∧ Z.Warmed39 U.vm ∧ U.heap = h0) (fun _ _ _ _ _ => True) (fun _ U o U' => ∃ v L, o = .returned v ∧ own_Q0 n0 v U'.heap L ∧ FrameEnd U o U' L room_1.cells room_1.slots) := by
  refine MetFree.of_bodySF (plainFor_of_name own_pn2) hisR ?_
  intro p e s m args below meth c s₁ Bd hml0 hP hK
  obtain ⟨rfl, hZ, hh⟩ := hP
  have hx := Bd.exec
  have hby := Bd.bytes
  have hml : c.maxLocals = 10 := hml0
  have hown : s.vm.findClass "com/example/groveledger/groveledger/LineWholePinLaw" = some m.cls := findClass_of_methodNamed Bd.named
  have hnm := (name_of_methodNamed Bd.named Bd.method).1
  have X0 : Stand p l e room_1 s m #[(.int p1), (.int p2), (.int p3), (.int p4)] below meth c s₁ [] 0 0 := Stand.of_body Bd
  have e0 : s₁.heap = h0 := by rw [← hh, Bd.state]; rfl
  have N0 := Fr.nil n0
  refine own_in (Q := own_Q0 n0) ?_
  rw [own_ef0]
  show own_G _ _ _ _ _ _ _ (s₁.setTop (mkF m 0 #[.val (.int p1), .val (.int p2), .val (.int p3), .val (.int p4), .unset, .unset, .unset, .unset, .unset, .unset] []))
  refine own_st (fun t k => XS.iloadN X0.here hx rfl (hb hby at_0) rfl k) ?_
  show own_G _ _ _ _ _ _ _ (s₁.setTop (mkF m 1 #[.val (.int p1), .val (.int p2), .val (.int p3), .val (.int p4), .unset, .unset, .unset, .unset, .unset, .unset] [(.int p3)]))
  refine own_st (fun t k => XS.iconst X0.here hx rfl (hb hby at_1) k) ?_
  show own_G _ _ _ _ _ _ _ (s₁.setTop (mkF m 2 #[.val (.int p1), .val (.int p2), .val (.int p3), .val (.int p4), .unset, .unset, .unset, .unset, .unset, .unset] [(.int (3 : Int32)), (.int p3)]))
  refine own_st (fun t k => XS.iand X0.here hx rfl (hb hby at_2) rfl k) ?_
  show own_G _ _ _ _ _ _ _ (s₁.setTop (mkF m 3 #[.val (.int p1), .val (.int p2), .val (.int p3), .val (.int p4), .unset, .unset, .unset, .unset, .unset, .unset] [(.int (p3 &&& (3 : Int32)))]))
  refine own_st (fun t k => XS.istore X0.here hx rfl (hb hby at_3) rfl (l' := #[.val (.int p1), .val (.int p2), .val (.int p3), .val (.int p4), .val (.int (p3 &&& (3 : Int32))), .unset, .unset, .unset, .unset, .unset]) rfl k) ?_
  show own_G _ _ _ _ _ _ _ (s₁.setTop (mkF m 5 #[.val (.int p1), .val (.int p2), .val (.int p3), .val (.int p4), .val (.int (p3 &&& (3 : Int32))), .unset, .unset, .unset, .unset, .unset] []))
  rcases own_n3 p3 with hn | hn | hn | hn
  · rw [hn]
    show own_G _ _ _ _ _ _ _ (s₁.setTop (mkF m 5 #[.val (.int p1), .val (.int p2), .val (.int p3), .val (.int p4), .val (.int (0 : Int32)), .unset, .unset, .unset, .unset, .unset] []))
    refine own_st (fun t k => XS.iload X0.here hx rfl (hb hby at_5) rfl k) ?_
    show own_G _ _ _ _ _ _ _ (s₁.setTop (mkF m 7 #[.val (.int p1), .val (.int p2), .val (.int p3), .val (.int p4), .val (.int (0 : Int32)), .unset, .unset, .unset, .unset, .unset] [(.int (0 : Int32))]))
    obtain ⟨T40, h40, k40, X40, e40, E40, A40, st40⟩ := newP X0 hx hZ (hw _ (List.mem_of_getElem? (i := 0) rfl)) e0 (g := (mkF m 7 #[.val (.int p1), .val (.int p2), .val (.int p3), .val (.int p4), .val (.int (0 : Int32)), .unset, .unset, .unset, .unset, .unset] [(.int (0 : Int32))])) rfl (hb hby at_7) rfl (by decide) (cap := 0) (by decide) (by decide) (by decide) (by decide)
    obtain ⟨b1, g40⟩ : ∃ z, z = h0.size := ⟨_, rfl⟩
    rw [← g40] at A40 st40
    refine own_st (fun t k => st40 t k) ?_
    show own_G _ _ _ _ _ _ _ (T40.setTop (mkF m 9 #[.val (.int p1), .val (.int p2), .val (.int p3), .val (.int p4), .val (.int (0 : Int32)), .unset, .unset, .unset, .unset, .unset] [(.ref b1)]))
    have ge_b1 : n0 ≤ b1 := Nat.le_trans Z0 (Nat.le_of_eq g40.symm)
    have Zz41 : n0 ≤ h40.size := Nat.le_trans Z0 E40.1
    have V_0 : Arv Z h40 b1 k40 .byte 0 [] (.int 0) := (Arv.new A40 (by decide)).pad (pad_rep [] (.int 0) 0)
    refine own_st (fun t k => XS.astore X40.here hx rfl (hb hby at_9) rfl rfl (l' := #[.val (.int p1), .val (.int p2), .val (.int p3), .val (.int p4), .val (.int (0 : Int32)), .val (.ref b1), .unset, .unset, .unset, .unset]) rfl k) ?_
    show own_G _ _ _ _ _ _ _ (T40.setTop (mkF m 11 #[.val (.int p1), .val (.int p2), .val (.int p3), .val (.int p4), .val (.int (0 : Int32)), .val (.ref b1), .unset, .unset, .unset, .unset] []))
    refine own_st (fun t k => XS.iload X40.here hx rfl (hb hby at_11) rfl k) ?_
    show own_G _ _ _ _ _ _ _ (T40.setTop (mkF m 13 #[.val (.int p1), .val (.int p2), .val (.int p3), .val (.int p4), .val (.int (0 : Int32)), .val (.ref b1), .unset, .unset, .unset, .unset] [(.int (0 : Int32))]))
    refine own_st (fun t k => XS.ifYes X40.here hx rfl (pc0 := 13) (pc' := 22) rfl (hb hby at_13) rfl ((if0 _ _).trans (flt (by decide)).2.2.2) (by decide) (by decide) k) ?_
    show own_G _ _ _ _ _ _ _ (T40.setTop (mkF m 22 #[.val (.int p1), .val (.int p2), .val (.int p3), .val (.int p4), .val (.int (0 : Int32)), .val (.ref b1), .unset, .unset, .unset, .unset] []))
    refine own_st (fun t k => XS.iload X40.here hx rfl (hb hby at_22) rfl k) ?_
    show own_G _ _ _ _ _ _ _ (T40.setTop (mkF m 24 #[.val (.int p1), .val (.int p2), .val (.int p3), .val (.int p4), .val (.int (0 : Int32)), .val (.ref b1), .unset, .unset, .unset, .unset] [(.int (0 : Int32))]))
    refine own_st (fun t k => XS.iconst X40.here hx rfl (hb hby at_24) k) ?_
    show own_G _ _ _ _ _ _ _ (T40.setTop (mkF m 25 #[.val (.int p1), .val (.int p2), .val (.int p3), .val (.int p4), .val (.int (0 : Int32)), .val (.ref b1), .unset, .unset, .unset, .unset] [(.int (1 : Int32)), (.int (0 : Int32))]))
    refine own_st (fun t k => XS.icmpYes X40.here hx rfl (pc0 := 25) (pc' := 37) rfl (hb hby at_25) rfl (flt (by decide)).2.2.2 (by decide) (by decide) k) ?_
    show own_G _ _ _ _ _ _ _ (T40.setTop (mkF m 37 #[.val (.int p1), .val (.int p2), .val (.int p3), .val (.int p4), .val (.int (0 : Int32)), .val (.ref b1), .unset, .unset, .unset, .unset] []))
    refine own_st (fun t k => XS.iload X40.here hx rfl (hb hby at_37) rfl k) ?_
    show own_G _ _ _ _ _ _ _ (T40.setTop (mkF m 39 #[.val (.int p1), .val (.int p2), .val (.int p3), .val (.int p4), .val (.int (0 : Int32)), .val (.ref b1), .unset, .unset, .unset, .unset] [(.int (0 : Int32))]))
    refine own_st (fun t k => XS.iconst X40.here hx rfl (hb hby at_39) k) ?_
    show own_G _ _ _ _ _ _ _ (T40.setTop (mkF m 40 #[.val (.int p1), .val (.int p2), .val (.int p3), .val (.int p4), .val (.int (0 : Int32)), .val (.ref b1), .unset, .unset, .unset, .unset] [(.int (2 : Int32)), (.int (0 : Int32))]))
    refine own_st (fun t k => XS.icmpYes X40.here hx rfl (pc0 := 40) (pc' := 52) rfl (hb hby at_40) rfl (flt (by decide)).2.2.2 (by decide) (by decide) k) ?_
    show own_G _ _ _ _ _ _ _ (T40.setTop (mkF m 52 #[.val (.int p1), .val (.int p2), .val (.int p3), .val (.int p4), .val (.int (0 : Int32)), .val (.ref b1), .unset, .unset, .unset, .unset] []))
    refine own_st (fun t k => XS.iloadN X40.here hx rfl (hb hby at_52) rfl k) ?_
    show own_G _ _ _ _ _ _ _ (T40.setTop (mkF m 53 #[.val (.int p1), .val (.int p2), .val (.int p3), .val (.int p4), .val (.int (0 : Int32)), .val (.ref b1), .unset, .unset, .unset, .unset] [(.int p4)]))
    refine own_st (fun t k => XS.iconst X40.here hx rfl (hb hby at_53) k) ?_
    show own_G _ _ _ _ _ _ _ (T40.setTop (mkF m 54 #[.val (.int p1), .val (.int p2), .val (.int p3), .val (.int p4), .val (.int (0 : Int32)), .val (.ref b1), .unset, .unset, .unset, .unset] [(.int (1 : Int32)), (.int p4)]))
    refine own_st (fun t k => XS.iand X40.here hx rfl (hb hby at_54) rfl k) ?_
    show own_G _ _ _ _ _ _ _ (T40.setTop (mkF m 55 #[.val (.int p1), .val (.int p2), .val (.int p3), .val (.int p4), .val (.int (0 : Int32)), .val (.ref b1), .unset, .unset, .unset, .unset] [(.int (p4 &&& (1 : Int32)))]))
    have J : ∀ (v6 : Int32), (v6 = 0 ∨ v6 = 1) → own_G p.tables e below s (own_Q0 n0) room_1.cells room_1.slots (T40.setTop (mkF m 63 #[.val (.int p1), .val (.int p2), .val (.int p3), .val (.int p4), .val (.int (0 : Int32)), .val (.ref b1), .unset, .unset, .unset, .unset] [(.int v6)])) := by
      intro v6 hv6
      refine own_st (fun t k => XS.istore X40.here hx rfl (hb hby at_63) rfl (l' := #[.val (.int p1), .val (.int p2), .val (.int p3), .val (.int p4), .val (.int (0 : Int32)), .val (.ref b1), .val (.int v6), .unset, .unset, .unset]) rfl k) ?_
      show own_G _ _ _ _ _ _ _ (T40.setTop (mkF m 65 #[.val (.int p1), .val (.int p2), .val (.int p3), .val (.int p4), .val (.int (0 : Int32)), .val (.ref b1), .val (.int v6), .unset, .unset, .unset] []))
      obtain ⟨T42, h42, X42, e42, E42, A42, D42, -, st42⟩ := newO X40 hx hZ hown (hw _ (List.mem_of_getElem? (i := 1) rfl)) (hw _ (List.mem_of_getElem? (i := 2) rfl)) (hw _ (List.mem_of_getElem? (i := 3) rfl)) e40 (g := (mkF m 65 #[.val (.int p1), .val (.int p2), .val (.int p3), .val (.int p4), .val (.int (0 : Int32)), .val (.ref b1), .val (.int v6), .unset, .unset, .unset] [])) rfl (hb hby at_65) (by decide) (by decide)
      obtain ⟨b2, g42⟩ : ∃ z, z = h40.size := ⟨_, rfl⟩
      rw [← g42] at A42 D42 st42
      refine own_st (fun t k => st42 t k) ?_
      show own_G _ _ _ _ _ _ _ (T42.setTop (mkF m 68 #[.val (.int p1), .val (.int p2), .val (.int p3), .val (.int p4), .val (.int (0 : Int32)), .val (.ref b1), .val (.int v6), .unset, .unset, .unset] [(.ref b2)]))
      have ge_b2 : n0 ≤ b2 := Nat.le_trans Zz41 (Nat.le_of_eq g42.symm)
      have ne_b1_b2 : b1 ≠ b2 := Nat.ne_of_lt (Nat.lt_of_lt_of_le V_0.lt (Nat.le_of_eq g42.symm))
      have V_43 := V_0.ext E42
      have Zz44 : n0 ≤ h42.size := Nat.le_trans Zz41 E42.1
      have F_number : Fld Z h42 b2 "com/example/groveledger/groveledger/Lines$Line" "number" "I" (.int 0) := D42 (Or.inr (hw _ (List.mem_of_getElem? (i := 16) rfl))) (ty := .int) (by decide)
      have F_text : Fld Z h42 b2 "com/example/groveledger/groveledger/Lines$Line" "text" "[B" .null := D42 (Or.inr (hw _ (List.mem_of_getElem? (i := 18) rfl))) (ty := (.array .byte)) (by decide)
      have F_ended : Fld Z h42 b2 "com/example/groveledger/groveledger/Lines$Line" "ended" "Z" (.int 0) := D42 (Or.inr (hw _ (List.mem_of_getElem? (i := 20) rfl))) (ty := .boolean) (by decide)
      have F_tooLong : Fld Z h42 b2 "com/example/groveledger/groveledger/Lines$Line" "tooLong" "Z" (.int 0) := D42 (Or.inr (hw _ (List.mem_of_getElem? (i := 22) rfl))) (ty := .boolean) (by decide)
      refine own_st (fun t k => XS.dup X42.here hx rfl (hb hby at_68) rfl rfl k) ?_
      show own_G _ _ _ _ _ _ _ (T42.setTop (mkF m 69 #[.val (.int p1), .val (.int p2), .val (.int p3), .val (.int p4), .val (.int (0 : Int32)), .val (.ref b1), .val (.int v6), .unset, .unset, .unset] [(.ref b2), (.ref b2)]))
      refine own_st (fun t k => XS.iloadN X42.here hx rfl (hb hby at_69) rfl k) ?_
      show own_G _ _ _ _ _ _ _ (T42.setTop (mkF m 70 #[.val (.int p1), .val (.int p2), .val (.int p3), .val (.int p4), .val (.int (0 : Int32)), .val (.ref b1), .val (.int v6), .unset, .unset, .unset] [(.int p1), (.ref b2), (.ref b2)]))
      refine own_st (fun t k => XS.aload X42.here hx rfl (hb hby at_70) rfl rfl k) ?_
      show own_G _ _ _ _ _ _ _ (T42.setTop (mkF m 72 #[.val (.int p1), .val (.int p2), .val (.int p3), .val (.int p4), .val (.int (0 : Int32)), .val (.ref b1), .val (.int v6), .unset, .unset, .unset] [(.ref b1), (.int p1), (.ref b2), (.ref b2)]))
      refine own_st (fun t k => XS.iload X42.here hx rfl (hb hby at_72) rfl k) ?_
      show own_G _ _ _ _ _ _ _ (T42.setTop (mkF m 74 #[.val (.int p1), .val (.int p2), .val (.int p3), .val (.int p4), .val (.int (0 : Int32)), .val (.ref b1), .val (.int v6), .unset, .unset, .unset] [(.int v6), (.ref b1), (.int p1), (.ref b2), (.ref b2)]))
      refine own_st (fun t k => XS.iconst X42.here hx rfl (hb hby at_74) k) ?_
      show own_G _ _ _ _ _ _ _ (T42.setTop (mkF m 75 #[.val (.int p1), .val (.int p2), .val (.int p3), .val (.int p4), .val (.int (0 : Int32)), .val (.ref b1), .val (.int v6), .unset, .unset, .unset] [(.int (0 : Int32)), (.int v6), (.ref b1), (.int p1), (.ref b2), (.ref b2)]))
      obtain ⟨_, _, ⟨T45, L45, k45, n45⟩, -, X45, ⟨Lc45, hQ45, l45, y45, z45⟩, st45⟩ := X42.specialBack hx (y := (⟨"com/example/groveledger/groveledger/Lines$Line", "<init>", "(I[BZZ)V"⟩ : MethodName)) rfl hown (mvT hZ (hw _ (List.mem_of_getElem? (i := 4) rfl))) (mvT hZ (hw _ (List.mem_of_getElem? (i := 5) rfl))) (mvT hZ (hw _ (List.mem_of_getElem? (i := 6) rfl))) (by decide) (backOf (W := 1) (own_rm1 l Z a0 hw [] b2 p1 b1 v6 0 h42 n0 Zz44 A42 F_number F_text F_ended F_tooLong ge_b2) hZ (hw _ (List.mem_of_getElem? (i := 6) rfl)) (hw _ (List.mem_of_getElem? (i := 3) rfl)) (by decide) (by decide)) (g := (mkF m 75 #[.val (.int p1), .val (.int p2), .val (.int p3), .val (.int p4), .val (.int (0 : Int32)), .val (.ref b1), .val (.int v6), .unset, .unset, .unset] [(.int (0 : Int32)), (.int v6), (.ref b1), (.int p1), (.ref b2), (.ref b2)])) rfl (by rw [hml]; rfl) (Steps.refl _) (a := b2) (argsL := [(.int p1), (.ref b1), (.int v6), (.int (0 : Int32))]) (rest := [(.ref b2)]) (lenOf own_pd0 rfl) rfl (by show 2 * 0 + _ ≤ _; exact Nat.le_of_eq rfl) (hb hby at_75) (fun _ _ => ⟨rfl, e42, (by decide : 2 + 0 ≤ _), (by decide : 4 + 0 ≤ _)⟩)
      dsimp only [Pt.U, Pt.locs, Pt.cells, Pt.slots] at X45 l45 y45 z45 st45 hQ45
      subst l45 y45 z45
      obtain ⟨rfl, N45q, K45, Ax45, Fn45, Ft45, Fe45, Fl45⟩ := hQ45
      have N45 := Fr.app N0 N45q
      refine own_st (fun t k => st45.trans k) ?_
      show own_G _ _ _ _ _ _ _ (T45.setTop (mkF m 78 #[.val (.int p1), .val (.int p2), .val (.int p3), .val (.int p4), .val (.int (0 : Int32)), .val (.ref b1), .val (.int v6), .unset, .unset, .unset] [(.ref b2)]))
      have V_46 := V_43.keep K45 (ninS ne_b1_b2 nin0)
      have Zz47 : n0 ≤ _ := Nat.le_trans Zz44 K45.1
      rw [own_z] at Fl45
      refine own_st (fun t k => XS.astore X45.here hx rfl (hb hby at_78) rfl rfl (l' := #[.val (.int p1), .val (.int p2), .val (.int p3), .val (.int p4), .val (.int (0 : Int32)), .val (.ref b1), .val (.int v6), .val (.ref b2), .unset, .unset]) rfl k) ?_
      show own_G _ _ _ _ _ _ _ (T45.setTop (mkF m 80 #[.val (.int p1), .val (.int p2), .val (.int p3), .val (.int p4), .val (.int (0 : Int32)), .val (.ref b1), .val (.int v6), .val (.ref b2), .unset, .unset] []))
      refine own_st (fun t k => XS.aload X45.here hx rfl (hb hby at_80) rfl rfl k) ?_
      show own_G _ _ _ _ _ _ _ (T45.setTop (mkF m 82 #[.val (.int p1), .val (.int p2), .val (.int p3), .val (.int p4), .val (.int (0 : Int32)), .val (.ref b1), .val (.int v6), .val (.ref b2), .unset, .unset] [(.ref b2)]))
      obtain ⟨cq48, kq48, q48a, q48b, q48c⟩ := isOf hZ rfl Ax45
      obtain ⟨_, _, ⟨T48, L48, k48, n48⟩, -, X48, ⟨Lc48, hQ48, l48, y48, z48⟩, st48⟩ := X45.virtualBack hx (y := (⟨"com/example/groveledger/groveledger/Lines$Line", "whole", "()[B"⟩ : MethodName)) (z := (⟨"com/example/groveledger/groveledger/Lines$Line", "whole", "()[B"⟩ : MethodName)) hown (mvT hZ (hw _ (List.mem_of_getElem? (i := 23) rfl))) (mvT hZ (hw _ (List.mem_of_getElem? (i := 24) rfl))) (notFace_of_selects (args := #[]) (mvT hZ (hw _ (List.mem_of_getElem? (i := 26) rfl)))) (mvT hZ (hw _ (List.mem_of_getElem? (i := 26) rfl))) (mvT hZ (hw _ (List.mem_of_getElem? (i := 25) rfl))) (by decide) (backOf (W := 0) (own_rm3 l Z a0 hw [] b2 b1 T45.heap n0 Zz47 Fl45 Ft45) hZ (hw _ (List.mem_of_getElem? (i := 27) rfl)) (hw _ (List.mem_of_getElem? (i := 3) rfl)) (by decide) (by decide)) q48a q48c (g := (mkF m 82 #[.val (.int p1), .val (.int p2), .val (.int p3), .val (.int p4), .val (.int (0 : Int32)), .val (.ref b1), .val (.int v6), .val (.ref b2), .unset, .unset] [(.ref b2)])) rfl (by rw [hml]; rfl) (Steps.refl _) (argsL := []) (rest := []) (lenOf own_pd1 rfl) rfl (by show 2 * 0 + _ ≤ _; exact Nat.le_of_eq rfl) (hb hby at_82) (fun _ _ => ⟨rfl, rfl, (by decide : 2 + 0 ≤ _), (by decide : 4 + 0 ≤ _)⟩)
      dsimp only [Pt.U, Pt.locs, Pt.cells, Pt.slots] at X48 l48 y48 z48 st48 hQ48
      subst l48 y48 z48
      obtain ⟨rfl, N48q, e48⟩ := hQ48
      have N48 := Fr.app N45 N48q
      refine own_st (fun t k => st48.trans k) ?_
      show own_G _ _ _ _ _ _ _ (T48.setTop (mkF m 85 #[.val (.int p1), .val (.int p2), .val (.int p3), .val (.int p4), .val (.int (0 : Int32)), .val (.ref b1), .val (.int v6), .val (.ref b2), .unset, .unset] [(.ref b1)]))
      refine own_st (fun t k => XS.astore X48.here hx rfl (hb hby at_85) rfl rfl (l' := #[.val (.int p1), .val (.int p2), .val (.int p3), .val (.int p4), .val (.int (0 : Int32)), .val (.ref b1), .val (.int v6), .val (.ref b2), .val (.ref b1), .unset]) rfl k) ?_
      show own_G _ _ _ _ _ _ _ (T48.setTop (mkF m 87 #[.val (.int p1), .val (.int p2), .val (.int p3), .val (.int p4), .val (.int (0 : Int32)), .val (.ref b1), .val (.int v6), .val (.ref b2), .val (.ref b1), .unset] []))
      refine own_st (fun t k => XS.aload X48.here hx rfl (hb hby at_87) rfl rfl k) ?_
      show own_G _ _ _ _ _ _ _ (T48.setTop (mkF m 89 #[.val (.int p1), .val (.int p2), .val (.int p3), .val (.int p4), .val (.int (0 : Int32)), .val (.ref b1), .val (.int v6), .val (.ref b2), .val (.ref b1), .unset] [(.ref b1)]))
      refine own_st (fun t k => XS.aload X48.here hx rfl (hb hby at_89) rfl rfl k) ?_
      show own_G _ _ _ _ _ _ _ (T48.setTop (mkF m 91 #[.val (.int p1), .val (.int p2), .val (.int p3), .val (.int p4), .val (.int (0 : Int32)), .val (.ref b1), .val (.int v6), .val (.ref b2), .val (.ref b1), .unset] [(.ref b1), (.ref b1)]))
      refine own_st (fun t k => Jvm.RoadKit.acmp (g := (mkF m 91 #[.val (.int p1), .val (.int p2), .val (.int p3), .val (.int p4), .val (.int (0 : Int32)), .val (.ref b1), .val (.int v6), .val (.ref b2), .val (.ref b1), .unset] [(.ref b1), (.ref b1)])) X48 hx rfl rfl rfl (pc0 := 91) (pc' := 96) (same := true) rfl (hb hby at_91) rfl (decide_eq_true (congrArg Value.ref rfl)) (by decide) (by decide) k) ?_
      show own_G _ _ _ _ _ _ _ (T48.setTop (mkF m 96 #[.val (.int p1), .val (.int p2), .val (.int p3), .val (.int p4), .val (.int (0 : Int32)), .val (.ref b1), .val (.int v6), .val (.ref b2), .val (.ref b1), .unset] []))
      refine own_st (fun t k => XS.aload X48.here hx rfl (hb hby at_96) rfl rfl k) ?_
      show own_G _ _ _ _ _ _ _ (T48.setTop (mkF m 98 #[.val (.int p1), .val (.int p2), .val (.int p3), .val (.int p4), .val (.int (0 : Int32)), .val (.ref b1), .val (.int v6), .val (.ref b2), .val (.ref b1), .unset] [(.ref b1)]))
      obtain ⟨cl49, Ar49, q49, S49, M49, H49, G49⟩ := V_46
      refine own_st (fun t k => X48.arraylength hx (by rw [e48]; exact Ar49.1) (State.isArrayOf_alike hZ.alike Ar49.2.1) (g := (mkF m 98 #[.val (.int p1), .val (.int p2), .val (.int p3), .val (.int p4), .val (.int (0 : Int32)), .val (.ref b1), .val (.int v6), .val (.ref b2), .val (.ref b1), .unset] [(.ref b1)])) rfl rfl (hb hby at_98) t k) ?_
      rw [len_of S49 M49]
      show own_G _ _ _ _ _ _ _ (T48.setTop (mkF m 99 #[.val (.int p1), .val (.int p2), .val (.int p3), .val (.int p4), .val (.int (0 : Int32)), .val (.ref b1), .val (.int v6), .val (.ref b2), .val (.ref b1), .unset] [(.int 0)]))
      refine own_st (fun t k => XS.iload X48.here hx rfl (hb hby at_99) rfl k) ?_
      show own_G _ _ _ _ _ _ _ (T48.setTop (mkF m 101 #[.val (.int p1), .val (.int p2), .val (.int p3), .val (.int p4), .val (.int (0 : Int32)), .val (.ref b1), .val (.int v6), .val (.ref b2), .val (.ref b1), .unset] [(.int (0 : Int32)), (.int (0 : Int32))]))
      refine own_st (fun t k => XS.icmpYes X48.here hx rfl (pc0 := 101) (pc' := 106) rfl (hb hby at_101) rfl (teq rfl).1 (by decide) (by decide) k) ?_
      show own_G _ _ _ _ _ _ _ (T48.setTop (mkF m 106 #[.val (.int p1), .val (.int p2), .val (.int p3), .val (.int p4), .val (.int (0 : Int32)), .val (.ref b1), .val (.int v6), .val (.ref b2), .val (.ref b1), .unset] []))
      refine own_st (fun t k => XS.iload X48.here hx rfl (hb hby at_106) rfl k) ?_
      show own_G _ _ _ _ _ _ _ (T48.setTop (mkF m 108 #[.val (.int p1), .val (.int p2), .val (.int p3), .val (.int p4), .val (.int (0 : Int32)), .val (.ref b1), .val (.int v6), .val (.ref b2), .val (.ref b1), .unset] [(.int (0 : Int32))]))
      refine own_st (fun t k => XS.ifYes X48.here hx rfl (pc0 := 108) (pc' := 122) rfl (hb hby at_108) rfl ((if0 _ _).trans (flt (by decide)).2.2.2) (by decide) (by decide) k) ?_
      show own_G _ _ _ _ _ _ _ (T48.setTop (mkF m 122 #[.val (.int p1), .val (.int p2), .val (.int p3), .val (.int p4), .val (.int (0 : Int32)), .val (.ref b1), .val (.int v6), .val (.ref b2), .val (.ref b1), .unset] []))
      refine own_st (fun t k => XS.iload X48.here hx rfl (hb hby at_122) rfl k) ?_
      show own_G _ _ _ _ _ _ _ (T48.setTop (mkF m 124 #[.val (.int p1), .val (.int p2), .val (.int p3), .val (.int p4), .val (.int (0 : Int32)), .val (.ref b1), .val (.int v6), .val (.ref b2), .val (.ref b1), .unset] [(.int (0 : Int32))]))
      refine own_st (fun t k => XS.iconst X48.here hx rfl (hb hby at_124) k) ?_
      show own_G _ _ _ _ _ _ _ (T48.setTop (mkF m 125 #[.val (.int p1), .val (.int p2), .val (.int p3), .val (.int p4), .val (.int (0 : Int32)), .val (.ref b1), .val (.int v6), .val (.ref b2), .val (.ref b1), .unset] [(.int (1 : Int32)), (.int (0 : Int32))]))
      refine own_st (fun t k => XS.icmpYes X48.here hx rfl (pc0 := 125) (pc' := 142) rfl (hb hby at_125) rfl (flt (by decide)).2.2.2 (by decide) (by decide) k) ?_
      show own_G _ _ _ _ _ _ _ (T48.setTop (mkF m 142 #[.val (.int p1), .val (.int p2), .val (.int p3), .val (.int p4), .val (.int (0 : Int32)), .val (.ref b1), .val (.int v6), .val (.ref b2), .val (.ref b1), .unset] []))
      refine own_st (fun t k => XS.iload X48.here hx rfl (hb hby at_142) rfl k) ?_
      show own_G _ _ _ _ _ _ _ (T48.setTop (mkF m 144 #[.val (.int p1), .val (.int p2), .val (.int p3), .val (.int p4), .val (.int (0 : Int32)), .val (.ref b1), .val (.int v6), .val (.ref b2), .val (.ref b1), .unset] [(.int (0 : Int32))]))
      refine own_st (fun t k => XS.iconst X48.here hx rfl (hb hby at_144) k) ?_
      show own_G _ _ _ _ _ _ _ (T48.setTop (mkF m 145 #[.val (.int p1), .val (.int p2), .val (.int p3), .val (.int p4), .val (.int (0 : Int32)), .val (.ref b1), .val (.int v6), .val (.ref b2), .val (.ref b1), .unset] [(.int (2 : Int32)), (.int (0 : Int32))]))
      refine own_st (fun t k => XS.icmpYes X48.here hx rfl (pc0 := 145) (pc' := 162) rfl (hb hby at_145) rfl (flt (by decide)).2.2.2 (by decide) (by decide) k) ?_
      show own_G _ _ _ _ _ _ _ (T48.setTop (mkF m 162 #[.val (.int p1), .val (.int p2), .val (.int p3), .val (.int p4), .val (.int (0 : Int32)), .val (.ref b1), .val (.int v6), .val (.ref b2), .val (.ref b1), .unset] []))
      refine own_st (fun t k => XS.aload X48.here hx rfl (hb hby at_162) rfl rfl k) ?_
      show own_G _ _ _ _ _ _ _ (T48.setTop (mkF m 164 #[.val (.int p1), .val (.int p2), .val (.int p3), .val (.int p4), .val (.int (0 : Int32)), .val (.ref b1), .val (.int v6), .val (.ref b2), .val (.ref b1), .unset] [(.ref b2)]))
      obtain ⟨cq50, kq50, q50a, q50b, q50c⟩ := isOf hZ e48 Ax45
      obtain ⟨_, _, ⟨T50, L50, k50, n50⟩, -, X50, ⟨Lc50, hQ50, l50, y50, z50⟩, st50⟩ := X48.virtualBack hx (y := (⟨"com/example/groveledger/groveledger/Lines$Line", "whole", "()[B"⟩ : MethodName)) (z := (⟨"com/example/groveledger/groveledger/Lines$Line", "whole", "()[B"⟩ : MethodName)) hown (mvT hZ (hw _ (List.mem_of_getElem? (i := 23) rfl))) (mvT hZ (hw _ (List.mem_of_getElem? (i := 24) rfl))) (notFace_of_selects (args := #[]) (mvT hZ (hw _ (List.mem_of_getElem? (i := 26) rfl)))) (mvT hZ (hw _ (List.mem_of_getElem? (i := 26) rfl))) (mvT hZ (hw _ (List.mem_of_getElem? (i := 25) rfl))) (by decide) (backOf (W := 0) (own_rm3 l Z a0 hw [] b2 b1 T45.heap n0 Zz47 Fl45 Ft45) hZ (hw _ (List.mem_of_getElem? (i := 27) rfl)) (hw _ (List.mem_of_getElem? (i := 3) rfl)) (by decide) (by decide)) q50a q50c (g := (mkF m 164 #[.val (.int p1), .val (.int p2), .val (.int p3), .val (.int p4), .val (.int (0 : Int32)), .val (.ref b1), .val (.int v6), .val (.ref b2), .val (.ref b1), .unset] [(.ref b2)])) rfl (by rw [hml]; rfl) (Steps.refl _) (argsL := []) (rest := []) (lenOf own_pd1 rfl) rfl (by show 2 * 0 + _ ≤ _; exact Nat.le_of_eq rfl) (hb hby at_164) (fun _ _ => ⟨rfl, e48, (by decide : 2 + 0 ≤ _), (by decide : 4 + 0 ≤ _)⟩)
      dsimp only [Pt.U, Pt.locs, Pt.cells, Pt.slots] at X50 l50 y50 z50 st50 hQ50
      subst l50 y50 z50
      obtain ⟨rfl, N50q, e50⟩ := hQ50
      have N50 := Fr.app N48 N50q
      refine own_st (fun t k => st50.trans k) ?_
      show own_G _ _ _ _ _ _ _ (T50.setTop (mkF m 167 #[.val (.int p1), .val (.int p2), .val (.int p3), .val (.int p4), .val (.int (0 : Int32)), .val (.ref b1), .val (.int v6), .val (.ref b2), .val (.ref b1), .unset] [(.ref b1)]))
      refine own_st (fun t k => XS.astore X50.here hx rfl (hb hby at_167) rfl rfl (l' := #[.val (.int p1), .val (.int p2), .val (.int p3), .val (.int p4), .val (.int (0 : Int32)), .val (.ref b1), .val (.int v6), .val (.ref b2), .val (.ref b1), .val (.ref b1)]) rfl k) ?_
      show own_G _ _ _ _ _ _ _ (T50.setTop (mkF m 169 #[.val (.int p1), .val (.int p2), .val (.int p3), .val (.int p4), .val (.int (0 : Int32)), .val (.ref b1), .val (.int v6), .val (.ref b2), .val (.ref b1), .val (.ref b1)] []))
      refine own_st (fun t k => XS.aload X50.here hx rfl (hb hby at_169) rfl rfl k) ?_
      show own_G _ _ _ _ _ _ _ (T50.setTop (mkF m 171 #[.val (.int p1), .val (.int p2), .val (.int p3), .val (.int p4), .val (.int (0 : Int32)), .val (.ref b1), .val (.int v6), .val (.ref b2), .val (.ref b1), .val (.ref b1)] [(.ref b1)]))
      refine own_st (fun t k => XS.aload X50.here hx rfl (hb hby at_171) rfl rfl k) ?_
      show own_G _ _ _ _ _ _ _ (T50.setTop (mkF m 173 #[.val (.int p1), .val (.int p2), .val (.int p3), .val (.int p4), .val (.int (0 : Int32)), .val (.ref b1), .val (.int v6), .val (.ref b2), .val (.ref b1), .val (.ref b1)] [(.ref b1), (.ref b1)]))
      refine own_st (fun t k => Jvm.RoadKit.acmp (g := (mkF m 173 #[.val (.int p1), .val (.int p2), .val (.int p3), .val (.int p4), .val (.int (0 : Int32)), .val (.ref b1), .val (.int v6), .val (.ref b2), .val (.ref b1), .val (.ref b1)] [(.ref b1), (.ref b1)])) X50 hx rfl rfl rfl (pc0 := 173) (pc' := 176) (same := true) rfl (hb hby at_173) rfl (decide_eq_true (congrArg Value.ref rfl)) (by decide) (by decide) k) ?_
      show own_G _ _ _ _ _ _ _ (T50.setTop (mkF m 176 #[.val (.int p1), .val (.int p2), .val (.int p3), .val (.int p4), .val (.int (0 : Int32)), .val (.ref b1), .val (.int v6), .val (.ref b2), .val (.ref b1), .val (.ref b1)] []))
      refine own_st (fun t k => XS.aload X50.here hx rfl (hb hby at_176) rfl rfl k) ?_
      show own_G _ _ _ _ _ _ _ (T50.setTop (mkF m 178 #[.val (.int p1), .val (.int p2), .val (.int p3), .val (.int p4), .val (.int (0 : Int32)), .val (.ref b1), .val (.int v6), .val (.ref b2), .val (.ref b1), .val (.ref b1)] [(.ref b2)]))
      obtain ⟨cq51, kq51, q51a, q51b, q51c⟩ := isOf hZ e50 Ax45
      obtain ⟨_, _, ⟨T51, L51, k51, n51⟩, -, X51, ⟨Lc51, hQ51, l51, y51, z51⟩, st51⟩ := X50.virtualBack hx (y := (⟨"com/example/groveledger/groveledger/Lines$Line", "number", "()I"⟩ : MethodName)) (z := (⟨"com/example/groveledger/groveledger/Lines$Line", "number", "()I"⟩ : MethodName)) hown (mvT hZ (hw _ (List.mem_of_getElem? (i := 28) rfl))) (mvT hZ (hw _ (List.mem_of_getElem? (i := 29) rfl))) (notFace_of_selects (args := #[]) (mvT hZ (hw _ (List.mem_of_getElem? (i := 31) rfl)))) (mvT hZ (hw _ (List.mem_of_getElem? (i := 31) rfl))) (mvT hZ (hw _ (List.mem_of_getElem? (i := 30) rfl))) (by decide) (backOf (W := 0) (own_rm4 l Z a0 hw [] b2 p1 T45.heap n0 Zz47 Fn45) hZ (hw _ (List.mem_of_getElem? (i := 32) rfl)) (hw _ (List.mem_of_getElem? (i := 3) rfl)) (by decide) (by decide)) q51a q51c (g := (mkF m 178 #[.val (.int p1), .val (.int p2), .val (.int p3), .val (.int p4), .val (.int (0 : Int32)), .val (.ref b1), .val (.int v6), .val (.ref b2), .val (.ref b1), .val (.ref b1)] [(.ref b2)])) rfl (by rw [hml]; rfl) (Steps.refl _) (argsL := []) (rest := []) (lenOf own_pd2 rfl) rfl (by show 2 * 0 + _ ≤ _; exact Nat.le_of_eq rfl) (hb hby at_178) (fun _ _ => ⟨rfl, e50, (by decide : 2 + 0 ≤ _), (by decide : 4 + 0 ≤ _)⟩)
      dsimp only [Pt.U, Pt.locs, Pt.cells, Pt.slots] at X51 l51 y51 z51 st51 hQ51
      subst l51 y51 z51
      obtain ⟨rfl, N51q, e51⟩ := hQ51
      have N51 := Fr.app N50 N51q
      refine own_st (fun t k => st51.trans k) ?_
      show own_G _ _ _ _ _ _ _ (T51.setTop (mkF m 181 #[.val (.int p1), .val (.int p2), .val (.int p3), .val (.int p4), .val (.int (0 : Int32)), .val (.ref b1), .val (.int v6), .val (.ref b2), .val (.ref b1), .val (.ref b1)] [(.int p1)]))
      refine own_st (fun t k => XS.iloadN X51.here hx rfl (hb hby at_181) rfl k) ?_
      show own_G _ _ _ _ _ _ _ (T51.setTop (mkF m 182 #[.val (.int p1), .val (.int p2), .val (.int p3), .val (.int p4), .val (.int (0 : Int32)), .val (.ref b1), .val (.int v6), .val (.ref b2), .val (.ref b1), .val (.ref b1)] [(.int p1), (.int p1)]))
      refine own_st (fun t k => XS.icmpNo X51.here hx rfl (hb hby at_182) rfl (teq rfl).2 k) ?_
      show own_G _ _ _ _ _ _ _ (T51.setTop (mkF m 185 #[.val (.int p1), .val (.int p2), .val (.int p3), .val (.int p4), .val (.int (0 : Int32)), .val (.ref b1), .val (.int v6), .val (.ref b2), .val (.ref b1), .val (.ref b1)] []))
      refine own_st (fun t k => XS.aload X51.here hx rfl (hb hby at_185) rfl rfl k) ?_
      show own_G _ _ _ _ _ _ _ (T51.setTop (mkF m 187 #[.val (.int p1), .val (.int p2), .val (.int p3), .val (.int p4), .val (.int (0 : Int32)), .val (.ref b1), .val (.int v6), .val (.ref b2), .val (.ref b1), .val (.ref b1)] [(.ref b2)]))
      obtain ⟨cq52, kq52, q52a, q52b, q52c⟩ := isOf hZ e51 Ax45
      obtain ⟨_, _, ⟨T52, L52, k52, n52⟩, -, X52, ⟨Lc52, hQ52, l52, y52, z52⟩, st52⟩ := X51.virtualBack hx (y := (⟨"com/example/groveledger/groveledger/Lines$Line", "ended", "()Z"⟩ : MethodName)) (z := (⟨"com/example/groveledger/groveledger/Lines$Line", "ended", "()Z"⟩ : MethodName)) hown (mvT hZ (hw _ (List.mem_of_getElem? (i := 33) rfl))) (mvT hZ (hw _ (List.mem_of_getElem? (i := 34) rfl))) (notFace_of_selects (args := #[]) (mvT hZ (hw _ (List.mem_of_getElem? (i := 36) rfl)))) (mvT hZ (hw _ (List.mem_of_getElem? (i := 36) rfl))) (mvT hZ (hw _ (List.mem_of_getElem? (i := 35) rfl))) (by decide) (backOf (W := 0) (own_rm5 l Z a0 hw [] b2 (nar .boolean v6) T45.heap n0 Zz47 Fe45) hZ (hw _ (List.mem_of_getElem? (i := 37) rfl)) (hw _ (List.mem_of_getElem? (i := 3) rfl)) (by decide) (by decide)) q52a q52c (g := (mkF m 187 #[.val (.int p1), .val (.int p2), .val (.int p3), .val (.int p4), .val (.int (0 : Int32)), .val (.ref b1), .val (.int v6), .val (.ref b2), .val (.ref b1), .val (.ref b1)] [(.ref b2)])) rfl (by rw [hml]; rfl) (Steps.refl _) (argsL := []) (rest := []) (lenOf own_pd3 rfl) rfl (by show 2 * 0 + _ ≤ _; exact Nat.le_of_eq rfl) (hb hby at_187) (fun _ _ => ⟨rfl, e51, (by decide : 2 + 0 ≤ _), (by decide : 4 + 0 ≤ _)⟩)
      dsimp only [Pt.U, Pt.locs, Pt.cells, Pt.slots] at X52 l52 y52 z52 st52 hQ52
      subst l52 y52 z52
      obtain ⟨rfl, N52q, e52⟩ := hQ52
      have N52 := Fr.app N51 N52q
      refine own_st (fun t k => st52.trans k) ?_
      show own_G _ _ _ _ _ _ _ (T52.setTop (mkF m 190 #[.val (.int p1), .val (.int p2), .val (.int p3), .val (.int p4), .val (.int (0 : Int32)), .val (.ref b1), .val (.int v6), .val (.ref b2), .val (.ref b1), .val (.ref b1)] [(.int (nar .boolean (nar .boolean v6)))]))
      refine own_st (fun t k => XS.iload X52.here hx rfl (hb hby at_190) rfl k) ?_
      show own_G _ _ _ _ _ _ _ (T52.setTop (mkF m 192 #[.val (.int p1), .val (.int p2), .val (.int p3), .val (.int p4), .val (.int (0 : Int32)), .val (.ref b1), .val (.int v6), .val (.ref b2), .val (.ref b1), .val (.ref b1)] [(.int v6), (.int (nar .boolean (nar .boolean v6)))]))
      refine own_st (fun t k => XS.icmpNo X52.here hx rfl (hb hby at_192) rfl (teq (own_nb hv6)).2 k) ?_
      show own_G _ _ _ _ _ _ _ (T52.setTop (mkF m 195 #[.val (.int p1), .val (.int p2), .val (.int p3), .val (.int p4), .val (.int (0 : Int32)), .val (.ref b1), .val (.int v6), .val (.ref b2), .val (.ref b1), .val (.ref b1)] []))
      refine own_st (fun t k => XS.aload X52.here hx rfl (hb hby at_195) rfl rfl k) ?_
      show own_G _ _ _ _ _ _ _ (T52.setTop (mkF m 197 #[.val (.int p1), .val (.int p2), .val (.int p3), .val (.int p4), .val (.int (0 : Int32)), .val (.ref b1), .val (.int v6), .val (.ref b2), .val (.ref b1), .val (.ref b1)] [(.ref b2)]))
      obtain ⟨cq53, kq53, q53a, q53b, q53c⟩ := isOf hZ e52 Ax45
      obtain ⟨_, _, ⟨T53, L53, k53, n53⟩, -, X53, ⟨Lc53, hQ53, l53, y53, z53⟩, st53⟩ := X52.virtualBack hx (y := (⟨"com/example/groveledger/groveledger/Lines$Line", "tooLong", "()Z"⟩ : MethodName)) (z := (⟨"com/example/groveledger/groveledger/Lines$Line", "tooLong", "()Z"⟩ : MethodName)) hown (mvT hZ (hw _ (List.mem_of_getElem? (i := 38) rfl))) (mvT hZ (hw _ (List.mem_of_getElem? (i := 39) rfl))) (notFace_of_selects (args := #[]) (mvT hZ (hw _ (List.mem_of_getElem? (i := 41) rfl)))) (mvT hZ (hw _ (List.mem_of_getElem? (i := 41) rfl))) (mvT hZ (hw _ (List.mem_of_getElem? (i := 40) rfl))) (by decide) (backOf (W := 0) (own_rm6 l Z a0 hw [] b2 0 T45.heap n0 Zz47 Fl45) hZ (hw _ (List.mem_of_getElem? (i := 42) rfl)) (hw _ (List.mem_of_getElem? (i := 3) rfl)) (by decide) (by decide)) q53a q53c (g := (mkF m 197 #[.val (.int p1), .val (.int p2), .val (.int p3), .val (.int p4), .val (.int (0 : Int32)), .val (.ref b1), .val (.int v6), .val (.ref b2), .val (.ref b1), .val (.ref b1)] [(.ref b2)])) rfl (by rw [hml]; rfl) (Steps.refl _) (argsL := []) (rest := []) (lenOf own_pd3 rfl) rfl (by show 2 * 0 + _ ≤ _; exact Nat.le_of_eq rfl) (hb hby at_197) (fun _ _ => ⟨rfl, e52, (by decide : 2 + 0 ≤ _), (by decide : 4 + 0 ≤ _)⟩)
      dsimp only [Pt.U, Pt.locs, Pt.cells, Pt.slots] at X53 l53 y53 z53 st53 hQ53
      subst l53 y53 z53
      obtain ⟨rfl, N53q, e53⟩ := hQ53
      have N53 := Fr.app N52 N53q
      refine own_st (fun t k => st53.trans k) ?_
      show own_G _ _ _ _ _ _ _ (T53.setTop (mkF m 200 #[.val (.int p1), .val (.int p2), .val (.int p3), .val (.int p4), .val (.int (0 : Int32)), .val (.ref b1), .val (.int v6), .val (.ref b2), .val (.ref b1), .val (.ref b1)] [(.int (nar .boolean (0 : Int32)))]))
      refine own_st (fun t k => XS.ifNo X53.here hx rfl (hb hby at_200) rfl ((if0 _ _).trans (teq own_z).2) k) ?_
      show own_G _ _ _ _ _ _ _ (T53.setTop (mkF m 203 #[.val (.int p1), .val (.int p2), .val (.int p3), .val (.int p4), .val (.int (0 : Int32)), .val (.ref b1), .val (.int v6), .val (.ref b2), .val (.ref b1), .val (.ref b1)] []))
      refine own_st (fun t k => XS.iconst X53.here hx rfl (hb hby at_203) k) ?_
      show own_G _ _ _ _ _ _ _ (T53.setTop (mkF m 204 #[.val (.int p1), .val (.int p2), .val (.int p3), .val (.int p4), .val (.int (0 : Int32)), .val (.ref b1), .val (.int v6), .val (.ref b2), .val (.ref b1), .val (.ref b1)] [(.int (1 : Int32))]))
      refine own_st (fun t k => XS.goto X53.here hx rfl (pc0 := 204) (pc' := 208) rfl (hb hby at_204) (by decide) (by decide) k) ?_
      show own_G _ _ _ _ _ _ _ (T53.setTop (mkF m 208 #[.val (.int p1), .val (.int p2), .val (.int p3), .val (.int p4), .val (.int (0 : Int32)), .val (.ref b1), .val (.int v6), .val (.ref b2), .val (.ref b1), .val (.ref b1)] [(.int (1 : Int32))]))
      exact own_retN (t := .boolean) (by simp) X53 hx Bd.returns (BodyLoose.notSynchronized Bd) (hb hby at_208) (by decide) (by decide) ⟨rfl, N53⟩
    by_cases h6 : (p4 &&& (1 : Int32)) = (0 : Int32)
    · refine own_st (fun t k => XS.ifYes X40.here hx rfl (pc0 := 55) (pc' := 62) rfl (hb hby at_55) rfl ((if0 _ _).trans (teq h6).1) (by decide) (by decide) k) ?_
      show own_G _ _ _ _ _ _ _ (T40.setTop (mkF m 62 #[.val (.int p1), .val (.int p2), .val (.int p3), .val (.int p4), .val (.int (0 : Int32)), .val (.ref b1), .unset, .unset, .unset, .unset] []))
      refine own_st (fun t k => XS.iconst X40.here hx rfl (hb hby at_62) k) ?_
      show own_G _ _ _ _ _ _ _ (T40.setTop (mkF m 63 #[.val (.int p1), .val (.int p2), .val (.int p3), .val (.int p4), .val (.int (0 : Int32)), .val (.ref b1), .unset, .unset, .unset, .unset] [(.int (0 : Int32))]))
      exact J _ (Or.inl rfl)
    · refine own_st (fun t k => XS.ifNo X40.here hx rfl (hb hby at_55) rfl ((if0 _ _).trans (feq h6).1) k) ?_
      show own_G _ _ _ _ _ _ _ (T40.setTop (mkF m 58 #[.val (.int p1), .val (.int p2), .val (.int p3), .val (.int p4), .val (.int (0 : Int32)), .val (.ref b1), .unset, .unset, .unset, .unset] []))
      refine own_st (fun t k => XS.iconst X40.here hx rfl (hb hby at_58) k) ?_
      show own_G _ _ _ _ _ _ _ (T40.setTop (mkF m 59 #[.val (.int p1), .val (.int p2), .val (.int p3), .val (.int p4), .val (.int (0 : Int32)), .val (.ref b1), .unset, .unset, .unset, .unset] [(.int (1 : Int32))]))
      refine own_st (fun t k => XS.goto X40.here hx rfl (pc0 := 59) (pc' := 63) rfl (hb hby at_59) (by decide) (by decide) k) ?_
      show own_G _ _ _ _ _ _ _ (T40.setTop (mkF m 63 #[.val (.int p1), .val (.int p2), .val (.int p3), .val (.int p4), .val (.int (0 : Int32)), .val (.ref b1), .unset, .unset, .unset, .unset] [(.int (1 : Int32))]))
      exact J _ (Or.inr rfl)
  · rw [hn]
    show own_G _ _ _ _ _ _ _ (s₁.setTop (mkF m 5 #[.val (.int p1), .val (.int p2), .val (.int p3), .val (.int p4), .val (.int (1 : Int32)), .unset, .unset, .unset, .unset, .unset] []))
    refine own_st (fun t k => XS.iload X0.here hx rfl (hb hby at_5) rfl k) ?_
    show own_G _ _ _ _ _ _ _ (s₁.setTop (mkF m 7 #[.val (.int p1), .val (.int p2), .val (.int p3), .val (.int p4), .val (.int (1 : Int32)), .unset, .unset, .unset, .unset, .unset] [(.int (1 : Int32))]))
    obtain ⟨T54, h54, k54, X54, e54, E54, A54, st54⟩ := newP X0 hx hZ (hw _ (List.mem_of_getElem? (i := 0) rfl)) e0 (g := (mkF m 7 #[.val (.int p1), .val (.int p2), .val (.int p3), .val (.int p4), .val (.int (1 : Int32)), .unset, .unset, .unset, .unset, .unset] [(.int (1 : Int32))])) rfl (hb hby at_7) rfl (by decide) (cap := 1) (by decide) (by decide) (by decide) (by decide)
    obtain ⟨b1, g54⟩ : ∃ z, z = h0.size := ⟨_, rfl⟩
    rw [← g54] at A54 st54
    refine own_st (fun t k => st54 t k) ?_
    show own_G _ _ _ _ _ _ _ (T54.setTop (mkF m 9 #[.val (.int p1), .val (.int p2), .val (.int p3), .val (.int p4), .val (.int (1 : Int32)), .unset, .unset, .unset, .unset, .unset] [(.ref b1)]))
    have ge_b1 : n0 ≤ b1 := Nat.le_trans Z0 (Nat.le_of_eq g54.symm)
    have Zz55 : n0 ≤ h54.size := Nat.le_trans Z0 E54.1
    have V_0 : Arv Z h54 b1 k54 .byte 1 [(.int 0)] (.int 0) := (Arv.new A54 (by decide)).pad (pad_rep [] (.int 0) 1)
    refine own_st (fun t k => XS.astore X54.here hx rfl (hb hby at_9) rfl rfl (l' := #[.val (.int p1), .val (.int p2), .val (.int p3), .val (.int p4), .val (.int (1 : Int32)), .val (.ref b1), .unset, .unset, .unset, .unset]) rfl k) ?_
    show own_G _ _ _ _ _ _ _ (T54.setTop (mkF m 11 #[.val (.int p1), .val (.int p2), .val (.int p3), .val (.int p4), .val (.int (1 : Int32)), .val (.ref b1), .unset, .unset, .unset, .unset] []))
    refine own_st (fun t k => XS.iload X54.here hx rfl (hb hby at_11) rfl k) ?_
    show own_G _ _ _ _ _ _ _ (T54.setTop (mkF m 13 #[.val (.int p1), .val (.int p2), .val (.int p3), .val (.int p4), .val (.int (1 : Int32)), .val (.ref b1), .unset, .unset, .unset, .unset] [(.int (1 : Int32))]))
    refine own_st (fun t k => XS.ifNo X54.here hx rfl (hb hby at_13) rfl ((if0 _ _).trans (tlt (by decide)).2.2.2) k) ?_
    show own_G _ _ _ _ _ _ _ (T54.setTop (mkF m 16 #[.val (.int p1), .val (.int p2), .val (.int p3), .val (.int p4), .val (.int (1 : Int32)), .val (.ref b1), .unset, .unset, .unset, .unset] []))
    refine own_st (fun t k => XS.aload X54.here hx rfl (hb hby at_16) rfl rfl k) ?_
    show own_G _ _ _ _ _ _ _ (T54.setTop (mkF m 18 #[.val (.int p1), .val (.int p2), .val (.int p3), .val (.int p4), .val (.int (1 : Int32)), .val (.ref b1), .unset, .unset, .unset, .unset] [(.ref b1)]))
    refine own_st (fun t k => XS.iconst X54.here hx rfl (hb hby at_18) k) ?_
    show own_G _ _ _ _ _ _ _ (T54.setTop (mkF m 19 #[.val (.int p1), .val (.int p2), .val (.int p3), .val (.int p4), .val (.int (1 : Int32)), .val (.ref b1), .unset, .unset, .unset, .unset] [(.int (0 : Int32)), (.ref b1)]))
    refine own_st (fun t k => XS.iloadN X54.here hx rfl (hb hby at_19) rfl k) ?_
    show own_G _ _ _ _ _ _ _ (T54.setTop (mkF m 20 #[.val (.int p1), .val (.int p2), .val (.int p3), .val (.int p4), .val (.int (1 : Int32)), .val (.ref b1), .unset, .unset, .unset, .unset] [(.int p2), (.int (0 : Int32)), (.ref b1)]))
    refine own_st (fun t k => XS.i2b X54.here hx rfl (hb hby at_20) rfl k) ?_
    show own_G _ _ _ _ _ _ _ (T54.setTop (mkF m 21 #[.val (.int p1), .val (.int p2), .val (.int p3), .val (.int p4), .val (.int (1 : Int32)), .val (.ref b1), .unset, .unset, .unset, .unset] [(.int (p2.toInt8.toInt32)), (.int (0 : Int32)), (.ref b1)]))
    obtain ⟨cl56, Ar56, q56, S56, M56, H56, G56⟩ := V_0
    have hin56 : ¬ ((0 : Int32) < 0 ∨ cl56.slots.size ≤ ((0 : Int32)).toNatClampNeg) := inb_of S56 ⟨by decide, by decide⟩
    obtain ⟨T57, h57, X57, e57, W57, st57⟩ := Jvm.RoadKit.stB X54 hx hZ e54 Ar56 (j := (0 : Int32)) hin56 (g := (mkF m 21 #[.val (.int p1), .val (.int p2), .val (.int p3), .val (.int p4), .val (.int (1 : Int32)), .val (.ref b1), .unset, .unset, .unset, .unset] [(.int (p2.toInt8.toInt32)), (.int (0 : Int32)), (.ref b1)])) rfl rfl (hb hby at_21)
    have N57 := Fr.snoc X57 N0 ge_b1
    refine own_st (fun t k => st57 t k) ?_
    show own_G _ _ _ _ _ _ _ (T57.setTop (mkF m 22 #[.val (.int p1), .val (.int p2), .val (.int p3), .val (.int p4), .val (.int (1 : Int32)), .val (.ref b1), .unset, .unset, .unset, .unset] []))
    have V_57 : Arv Z h57 b1 k54 .byte 1 [(.int (nar .byte (p2.toInt8.toInt32)))] (.int 0) := Arv.set Ar56 q56 S56 M56 H56 G56 (fits_nar_byte _) W57 0 rfl (Nat.le_of_ble_eq_true rfl)
    have Zz58 : n0 ≤ h57.size := Nat.le_trans Zz55 (Keep.of_wr W57).1
    refine own_st (fun t k => XS.iload X57.here hx rfl (hb hby at_22) rfl k) ?_
    show own_G _ _ _ _ _ _ _ (T57.setTop (mkF m 24 #[.val (.int p1), .val (.int p2), .val (.int p3), .val (.int p4), .val (.int (1 : Int32)), .val (.ref b1), .unset, .unset, .unset, .unset] [(.int (1 : Int32))]))
    refine own_st (fun t k => XS.iconst X57.here hx rfl (hb hby at_24) k) ?_
    show own_G _ _ _ _ _ _ _ (T57.setTop (mkF m 25 #[.val (.int p1), .val (.int p2), .val (.int p3), .val (.int p4), .val (.int (1 : Int32)), .val (.ref b1), .unset, .unset, .unset, .unset] [(.int (1 : Int32)), (.int (1 : Int32))]))
    refine own_st (fun t k => XS.icmpYes X57.here hx rfl (pc0 := 25) (pc' := 37) rfl (hb hby at_25) rfl (flt (by decide)).2.2.2 (by decide) (by decide) k) ?_
    show own_G _ _ _ _ _ _ _ (T57.setTop (mkF m 37 #[.val (.int p1), .val (.int p2), .val (.int p3), .val (.int p4), .val (.int (1 : Int32)), .val (.ref b1), .unset, .unset, .unset, .unset] []))
    refine own_st (fun t k => XS.iload X57.here hx rfl (hb hby at_37) rfl k) ?_
    show own_G _ _ _ _ _ _ _ (T57.setTop (mkF m 39 #[.val (.int p1), .val (.int p2), .val (.int p3), .val (.int p4), .val (.int (1 : Int32)), .val (.ref b1), .unset, .unset, .unset, .unset] [(.int (1 : Int32))]))
    refine own_st (fun t k => XS.iconst X57.here hx rfl (hb hby at_39) k) ?_
    show own_G _ _ _ _ _ _ _ (T57.setTop (mkF m 40 #[.val (.int p1), .val (.int p2), .val (.int p3), .val (.int p4), .val (.int (1 : Int32)), .val (.ref b1), .unset, .unset, .unset, .unset] [(.int (2 : Int32)), (.int (1 : Int32))]))
    refine own_st (fun t k => XS.icmpYes X57.here hx rfl (pc0 := 40) (pc' := 52) rfl (hb hby at_40) rfl (flt (by decide)).2.2.2 (by decide) (by decide) k) ?_
    show own_G _ _ _ _ _ _ _ (T57.setTop (mkF m 52 #[.val (.int p1), .val (.int p2), .val (.int p3), .val (.int p4), .val (.int (1 : Int32)), .val (.ref b1), .unset, .unset, .unset, .unset] []))
    refine own_st (fun t k => XS.iloadN X57.here hx rfl (hb hby at_52) rfl k) ?_
    show own_G _ _ _ _ _ _ _ (T57.setTop (mkF m 53 #[.val (.int p1), .val (.int p2), .val (.int p3), .val (.int p4), .val (.int (1 : Int32)), .val (.ref b1), .unset, .unset, .unset, .unset] [(.int p4)]))
    refine own_st (fun t k => XS.iconst X57.here hx rfl (hb hby at_53) k) ?_
    show own_G _ _ _ _ _ _ _ (T57.setTop (mkF m 54 #[.val (.int p1), .val (.int p2), .val (.int p3), .val (.int p4), .val (.int (1 : Int32)), .val (.ref b1), .unset, .unset, .unset, .unset] [(.int (1 : Int32)), (.int p4)]))
    refine own_st (fun t k => XS.iand X57.here hx rfl (hb hby at_54) rfl k) ?_
    show own_G _ _ _ _ _ _ _ (T57.setTop (mkF m 55 #[.val (.int p1), .val (.int p2), .val (.int p3), .val (.int p4), .val (.int (1 : Int32)), .val (.ref b1), .unset, .unset, .unset, .unset] [(.int (p4 &&& (1 : Int32)))]))
    have J : ∀ (v6 : Int32), (v6 = 0 ∨ v6 = 1) → own_G p.tables e below s (own_Q0 n0) room_1.cells room_1.slots (T57.setTop (mkF m 63 #[.val (.int p1), .val (.int p2), .val (.int p3), .val (.int p4), .val (.int (1 : Int32)), .val (.ref b1), .unset, .unset, .unset, .unset] [(.int v6)])) := by
      intro v6 hv6
      refine own_st (fun t k => XS.istore X57.here hx rfl (hb hby at_63) rfl (l' := #[.val (.int p1), .val (.int p2), .val (.int p3), .val (.int p4), .val (.int (1 : Int32)), .val (.ref b1), .val (.int v6), .unset, .unset, .unset]) rfl k) ?_
      show own_G _ _ _ _ _ _ _ (T57.setTop (mkF m 65 #[.val (.int p1), .val (.int p2), .val (.int p3), .val (.int p4), .val (.int (1 : Int32)), .val (.ref b1), .val (.int v6), .unset, .unset, .unset] []))
      obtain ⟨T59, h59, X59, e59, E59, A59, D59, -, st59⟩ := newO X57 hx hZ hown (hw _ (List.mem_of_getElem? (i := 1) rfl)) (hw _ (List.mem_of_getElem? (i := 2) rfl)) (hw _ (List.mem_of_getElem? (i := 3) rfl)) e57 (g := (mkF m 65 #[.val (.int p1), .val (.int p2), .val (.int p3), .val (.int p4), .val (.int (1 : Int32)), .val (.ref b1), .val (.int v6), .unset, .unset, .unset] [])) rfl (hb hby at_65) (by decide) (by decide)
      obtain ⟨b2, g59⟩ : ∃ z, z = h57.size := ⟨_, rfl⟩
      rw [← g59] at A59 D59 st59
      refine own_st (fun t k => st59 t k) ?_
      show own_G _ _ _ _ _ _ _ (T59.setTop (mkF m 68 #[.val (.int p1), .val (.int p2), .val (.int p3), .val (.int p4), .val (.int (1 : Int32)), .val (.ref b1), .val (.int v6), .unset, .unset, .unset] [(.ref b2)]))
      have ge_b2 : n0 ≤ b2 := Nat.le_trans Zz58 (Nat.le_of_eq g59.symm)
      have ne_b1_b2 : b1 ≠ b2 := Nat.ne_of_lt (Nat.lt_of_lt_of_le V_57.lt (Nat.le_of_eq g59.symm))
      have V_60 := V_57.ext E59
      have Zz61 : n0 ≤ h59.size := Nat.le_trans Zz58 E59.1
      have F_number : Fld Z h59 b2 "com/example/groveledger/groveledger/Lines$Line" "number" "I" (.int 0) := D59 (Or.inr (hw _ (List.mem_of_getElem? (i := 16) rfl))) (ty := .int) (by decide)
      have F_text : Fld Z h59 b2 "com/example/groveledger/groveledger/Lines$Line" "text" "[B" .null := D59 (Or.inr (hw _ (List.mem_of_getElem? (i := 18) rfl))) (ty := (.array .byte)) (by decide)
      have F_ended : Fld Z h59 b2 "com/example/groveledger/groveledger/Lines$Line" "ended" "Z" (.int 0) := D59 (Or.inr (hw _ (List.mem_of_getElem? (i := 20) rfl))) (ty := .boolean) (by decide)
      have F_tooLong : Fld Z h59 b2 "com/example/groveledger/groveledger/Lines$Line" "tooLong" "Z" (.int 0) := D59 (Or.inr (hw _ (List.mem_of_getElem? (i := 22) rfl))) (ty := .boolean) (by decide)
      refine own_st (fun t k => XS.dup X59.here hx rfl (hb hby at_68) rfl rfl k) ?_
      show own_G _ _ _ _ _ _ _ (T59.setTop (mkF m 69 #[.val (.int p1), .val (.int p2), .val (.int p3), .val (.int p4), .val (.int (1 : Int32)), .val (.ref b1), .val (.int v6), .unset, .unset, .unset] [(.ref b2), (.ref b2)]))
      refine own_st (fun t k => XS.iloadN X59.here hx rfl (hb hby at_69) rfl k) ?_
      show own_G _ _ _ _ _ _ _ (T59.setTop (mkF m 70 #[.val (.int p1), .val (.int p2), .val (.int p3), .val (.int p4), .val (.int (1 : Int32)), .val (.ref b1), .val (.int v6), .unset, .unset, .unset] [(.int p1), (.ref b2), (.ref b2)]))
      refine own_st (fun t k => XS.aload X59.here hx rfl (hb hby at_70) rfl rfl k) ?_
      show own_G _ _ _ _ _ _ _ (T59.setTop (mkF m 72 #[.val (.int p1), .val (.int p2), .val (.int p3), .val (.int p4), .val (.int (1 : Int32)), .val (.ref b1), .val (.int v6), .unset, .unset, .unset] [(.ref b1), (.int p1), (.ref b2), (.ref b2)]))
      refine own_st (fun t k => XS.iload X59.here hx rfl (hb hby at_72) rfl k) ?_
      show own_G _ _ _ _ _ _ _ (T59.setTop (mkF m 74 #[.val (.int p1), .val (.int p2), .val (.int p3), .val (.int p4), .val (.int (1 : Int32)), .val (.ref b1), .val (.int v6), .unset, .unset, .unset] [(.int v6), (.ref b1), (.int p1), (.ref b2), (.ref b2)]))
      refine own_st (fun t k => XS.iconst X59.here hx rfl (hb hby at_74) k) ?_
      show own_G _ _ _ _ _ _ _ (T59.setTop (mkF m 75 #[.val (.int p1), .val (.int p2), .val (.int p3), .val (.int p4), .val (.int (1 : Int32)), .val (.ref b1), .val (.int v6), .unset, .unset, .unset] [(.int (0 : Int32)), (.int v6), (.ref b1), (.int p1), (.ref b2), (.ref b2)]))
      obtain ⟨_, _, ⟨T62, L62, k62, n62⟩, -, X62, ⟨Lc62, hQ62, l62, y62, z62⟩, st62⟩ := X59.specialBack hx (y := (⟨"com/example/groveledger/groveledger/Lines$Line", "<init>", "(I[BZZ)V"⟩ : MethodName)) rfl hown (mvT hZ (hw _ (List.mem_of_getElem? (i := 4) rfl))) (mvT hZ (hw _ (List.mem_of_getElem? (i := 5) rfl))) (mvT hZ (hw _ (List.mem_of_getElem? (i := 6) rfl))) (by decide) (backOf (W := 1) (own_rm1 l Z a0 hw [] b2 p1 b1 v6 0 h59 n0 Zz61 A59 F_number F_text F_ended F_tooLong ge_b2) hZ (hw _ (List.mem_of_getElem? (i := 6) rfl)) (hw _ (List.mem_of_getElem? (i := 3) rfl)) (by decide) (by decide)) (g := (mkF m 75 #[.val (.int p1), .val (.int p2), .val (.int p3), .val (.int p4), .val (.int (1 : Int32)), .val (.ref b1), .val (.int v6), .unset, .unset, .unset] [(.int (0 : Int32)), (.int v6), (.ref b1), (.int p1), (.ref b2), (.ref b2)])) rfl (by rw [hml]; rfl) (Steps.refl _) (a := b2) (argsL := [(.int p1), (.ref b1), (.int v6), (.int (0 : Int32))]) (rest := [(.ref b2)]) (lenOf own_pd0 rfl) rfl (by show 2 * 0 + _ ≤ _; exact Nat.le_of_eq rfl) (hb hby at_75) (fun _ _ => ⟨rfl, e59, (by decide : 2 + 0 ≤ _), (by decide : 5 + 0 ≤ _)⟩)
      dsimp only [Pt.U, Pt.locs, Pt.cells, Pt.slots] at X62 l62 y62 z62 st62 hQ62
      subst l62 y62 z62
      obtain ⟨rfl, N62q, K62, Ax62, Fn62, Ft62, Fe62, Fl62⟩ := hQ62
      have N62 := Fr.app N57 N62q
      refine own_st (fun t k => st62.trans k) ?_
      show own_G _ _ _ _ _ _ _ (T62.setTop (mkF m 78 #[.val (.int p1), .val (.int p2), .val (.int p3), .val (.int p4), .val (.int (1 : Int32)), .val (.ref b1), .val (.int v6), .unset, .unset, .unset] [(.ref b2)]))
      have V_63 := V_60.keep K62 (ninS ne_b1_b2 nin0)
      have Zz64 : n0 ≤ _ := Nat.le_trans Zz61 K62.1
      rw [own_z] at Fl62
      refine own_st (fun t k => XS.astore X62.here hx rfl (hb hby at_78) rfl rfl (l' := #[.val (.int p1), .val (.int p2), .val (.int p3), .val (.int p4), .val (.int (1 : Int32)), .val (.ref b1), .val (.int v6), .val (.ref b2), .unset, .unset]) rfl k) ?_
      show own_G _ _ _ _ _ _ _ (T62.setTop (mkF m 80 #[.val (.int p1), .val (.int p2), .val (.int p3), .val (.int p4), .val (.int (1 : Int32)), .val (.ref b1), .val (.int v6), .val (.ref b2), .unset, .unset] []))
      refine own_st (fun t k => XS.aload X62.here hx rfl (hb hby at_80) rfl rfl k) ?_
      show own_G _ _ _ _ _ _ _ (T62.setTop (mkF m 82 #[.val (.int p1), .val (.int p2), .val (.int p3), .val (.int p4), .val (.int (1 : Int32)), .val (.ref b1), .val (.int v6), .val (.ref b2), .unset, .unset] [(.ref b2)]))
      obtain ⟨cq65, kq65, q65a, q65b, q65c⟩ := isOf hZ rfl Ax62
      obtain ⟨_, _, ⟨T65, L65, k65, n65⟩, -, X65, ⟨Lc65, hQ65, l65, y65, z65⟩, st65⟩ := X62.virtualBack hx (y := (⟨"com/example/groveledger/groveledger/Lines$Line", "whole", "()[B"⟩ : MethodName)) (z := (⟨"com/example/groveledger/groveledger/Lines$Line", "whole", "()[B"⟩ : MethodName)) hown (mvT hZ (hw _ (List.mem_of_getElem? (i := 23) rfl))) (mvT hZ (hw _ (List.mem_of_getElem? (i := 24) rfl))) (notFace_of_selects (args := #[]) (mvT hZ (hw _ (List.mem_of_getElem? (i := 26) rfl)))) (mvT hZ (hw _ (List.mem_of_getElem? (i := 26) rfl))) (mvT hZ (hw _ (List.mem_of_getElem? (i := 25) rfl))) (by decide) (backOf (W := 0) (own_rm3 l Z a0 hw [] b2 b1 T62.heap n0 Zz64 Fl62 Ft62) hZ (hw _ (List.mem_of_getElem? (i := 27) rfl)) (hw _ (List.mem_of_getElem? (i := 3) rfl)) (by decide) (by decide)) q65a q65c (g := (mkF m 82 #[.val (.int p1), .val (.int p2), .val (.int p3), .val (.int p4), .val (.int (1 : Int32)), .val (.ref b1), .val (.int v6), .val (.ref b2), .unset, .unset] [(.ref b2)])) rfl (by rw [hml]; rfl) (Steps.refl _) (argsL := []) (rest := []) (lenOf own_pd1 rfl) rfl (by show 2 * 0 + _ ≤ _; exact Nat.le_of_eq rfl) (hb hby at_82) (fun _ _ => ⟨rfl, rfl, (by decide : 2 + 0 ≤ _), (by decide : 5 + 0 ≤ _)⟩)
      dsimp only [Pt.U, Pt.locs, Pt.cells, Pt.slots] at X65 l65 y65 z65 st65 hQ65
      subst l65 y65 z65
      obtain ⟨rfl, N65q, e65⟩ := hQ65
      have N65 := Fr.app N62 N65q
      refine own_st (fun t k => st65.trans k) ?_
      show own_G _ _ _ _ _ _ _ (T65.setTop (mkF m 85 #[.val (.int p1), .val (.int p2), .val (.int p3), .val (.int p4), .val (.int (1 : Int32)), .val (.ref b1), .val (.int v6), .val (.ref b2), .unset, .unset] [(.ref b1)]))
      refine own_st (fun t k => XS.astore X65.here hx rfl (hb hby at_85) rfl rfl (l' := #[.val (.int p1), .val (.int p2), .val (.int p3), .val (.int p4), .val (.int (1 : Int32)), .val (.ref b1), .val (.int v6), .val (.ref b2), .val (.ref b1), .unset]) rfl k) ?_
      show own_G _ _ _ _ _ _ _ (T65.setTop (mkF m 87 #[.val (.int p1), .val (.int p2), .val (.int p3), .val (.int p4), .val (.int (1 : Int32)), .val (.ref b1), .val (.int v6), .val (.ref b2), .val (.ref b1), .unset] []))
      refine own_st (fun t k => XS.aload X65.here hx rfl (hb hby at_87) rfl rfl k) ?_
      show own_G _ _ _ _ _ _ _ (T65.setTop (mkF m 89 #[.val (.int p1), .val (.int p2), .val (.int p3), .val (.int p4), .val (.int (1 : Int32)), .val (.ref b1), .val (.int v6), .val (.ref b2), .val (.ref b1), .unset] [(.ref b1)]))
      refine own_st (fun t k => XS.aload X65.here hx rfl (hb hby at_89) rfl rfl k) ?_
      show own_G _ _ _ _ _ _ _ (T65.setTop (mkF m 91 #[.val (.int p1), .val (.int p2), .val (.int p3), .val (.int p4), .val (.int (1 : Int32)), .val (.ref b1), .val (.int v6), .val (.ref b2), .val (.ref b1), .unset] [(.ref b1), (.ref b1)]))
      refine own_st (fun t k => Jvm.RoadKit.acmp (g := (mkF m 91 #[.val (.int p1), .val (.int p2), .val (.int p3), .val (.int p4), .val (.int (1 : Int32)), .val (.ref b1), .val (.int v6), .val (.ref b2), .val (.ref b1), .unset] [(.ref b1), (.ref b1)])) X65 hx rfl rfl rfl (pc0 := 91) (pc' := 96) (same := true) rfl (hb hby at_91) rfl (decide_eq_true (congrArg Value.ref rfl)) (by decide) (by decide) k) ?_
      show own_G _ _ _ _ _ _ _ (T65.setTop (mkF m 96 #[.val (.int p1), .val (.int p2), .val (.int p3), .val (.int p4), .val (.int (1 : Int32)), .val (.ref b1), .val (.int v6), .val (.ref b2), .val (.ref b1), .unset] []))
      refine own_st (fun t k => XS.aload X65.here hx rfl (hb hby at_96) rfl rfl k) ?_
      show own_G _ _ _ _ _ _ _ (T65.setTop (mkF m 98 #[.val (.int p1), .val (.int p2), .val (.int p3), .val (.int p4), .val (.int (1 : Int32)), .val (.ref b1), .val (.int v6), .val (.ref b2), .val (.ref b1), .unset] [(.ref b1)]))
      obtain ⟨cl66, Ar66, q66, S66, M66, H66, G66⟩ := V_63
      refine own_st (fun t k => X65.arraylength hx (by rw [e65]; exact Ar66.1) (State.isArrayOf_alike hZ.alike Ar66.2.1) (g := (mkF m 98 #[.val (.int p1), .val (.int p2), .val (.int p3), .val (.int p4), .val (.int (1 : Int32)), .val (.ref b1), .val (.int v6), .val (.ref b2), .val (.ref b1), .unset] [(.ref b1)])) rfl rfl (hb hby at_98) t k) ?_
      rw [len_of S66 M66]
      show own_G _ _ _ _ _ _ _ (T65.setTop (mkF m 99 #[.val (.int p1), .val (.int p2), .val (.int p3), .val (.int p4), .val (.int (1 : Int32)), .val (.ref b1), .val (.int v6), .val (.ref b2), .val (.ref b1), .unset] [(.int 1)]))
      refine own_st (fun t k => XS.iload X65.here hx rfl (hb hby at_99) rfl k) ?_
      show own_G _ _ _ _ _ _ _ (T65.setTop (mkF m 101 #[.val (.int p1), .val (.int p2), .val (.int p3), .val (.int p4), .val (.int (1 : Int32)), .val (.ref b1), .val (.int v6), .val (.ref b2), .val (.ref b1), .unset] [(.int (1 : Int32)), (.int (1 : Int32))]))
      refine own_st (fun t k => XS.icmpYes X65.here hx rfl (pc0 := 101) (pc' := 106) rfl (hb hby at_101) rfl (teq rfl).1 (by decide) (by decide) k) ?_
      show own_G _ _ _ _ _ _ _ (T65.setTop (mkF m 106 #[.val (.int p1), .val (.int p2), .val (.int p3), .val (.int p4), .val (.int (1 : Int32)), .val (.ref b1), .val (.int v6), .val (.ref b2), .val (.ref b1), .unset] []))
      refine own_st (fun t k => XS.iload X65.here hx rfl (hb hby at_106) rfl k) ?_
      show own_G _ _ _ _ _ _ _ (T65.setTop (mkF m 108 #[.val (.int p1), .val (.int p2), .val (.int p3), .val (.int p4), .val (.int (1 : Int32)), .val (.ref b1), .val (.int v6), .val (.ref b2), .val (.ref b1), .unset] [(.int (1 : Int32))]))
      refine own_st (fun t k => XS.ifNo X65.here hx rfl (hb hby at_108) rfl ((if0 _ _).trans (tlt (by decide)).2.2.2) k) ?_
      show own_G _ _ _ _ _ _ _ (T65.setTop (mkF m 111 #[.val (.int p1), .val (.int p2), .val (.int p3), .val (.int p4), .val (.int (1 : Int32)), .val (.ref b1), .val (.int v6), .val (.ref b2), .val (.ref b1), .unset] []))
      refine own_st (fun t k => XS.aload X65.here hx rfl (hb hby at_111) rfl rfl k) ?_
      show own_G _ _ _ _ _ _ _ (T65.setTop (mkF m 113 #[.val (.int p1), .val (.int p2), .val (.int p3), .val (.int p4), .val (.int (1 : Int32)), .val (.ref b1), .val (.int v6), .val (.ref b2), .val (.ref b1), .unset] [(.ref b1)]))
      refine own_st (fun t k => XS.iconst X65.here hx rfl (hb hby at_113) k) ?_
      show own_G _ _ _ _ _ _ _ (T65.setTop (mkF m 114 #[.val (.int p1), .val (.int p2), .val (.int p3), .val (.int p4), .val (.int (1 : Int32)), .val (.ref b1), .val (.int v6), .val (.ref b2), .val (.ref b1), .unset] [(.int (0 : Int32)), (.ref b1)]))
      have hin0 : ¬ ((0 : Int32) < 0 ∨ cl66.slots.size ≤ ((0 : Int32)).toNatClampNeg) := inb_of S66 ⟨by decide, by decide⟩
      have hat0 : cl66.slots[((0 : Int32)).toNatClampNeg]? = some (.int (nar .byte (p2.toInt8.toInt32))) := Has.at H66 hin0 rfl
      refine own_st (fun t k => X65.baloadBytes hx (j := (0 : Int32)) (v := (.int (nar .byte (p2.toInt8.toInt32)))) (by rw [e65]; exact Ar66.1) (State.isArrayOf_alike hZ.alike Ar66.2.1) Ar66.2.2 hin0 hat0 (g := (mkF m 114 #[.val (.int p1), .val (.int p2), .val (.int p3), .val (.int p4), .val (.int (1 : Int32)), .val (.ref b1), .val (.int v6), .val (.ref b2), .val (.ref b1), .unset] [(.int (0 : Int32)), (.ref b1)])) rfl rfl (hb hby at_114) t k) ?_
      show own_G _ _ _ _ _ _ _ (T65.setTop (mkF m 115 #[.val (.int p1), .val (.int p2), .val (.int p3), .val (.int p4), .val (.int (1 : Int32)), .val (.ref b1), .val (.int v6), .val (.ref b2), .val (.ref b1), .unset] [(.int (nar .byte (p2.toInt8.toInt32)))]))
      refine own_st (fun t k => XS.iloadN X65.here hx rfl (hb hby at_115) rfl k) ?_
      show own_G _ _ _ _ _ _ _ (T65.setTop (mkF m 116 #[.val (.int p1), .val (.int p2), .val (.int p3), .val (.int p4), .val (.int (1 : Int32)), .val (.ref b1), .val (.int v6), .val (.ref b2), .val (.ref b1), .unset] [(.int p2), (.int (nar .byte (p2.toInt8.toInt32)))]))
      refine own_st (fun t k => XS.i2b X65.here hx rfl (hb hby at_116) rfl k) ?_
      show own_G _ _ _ _ _ _ _ (T65.setTop (mkF m 117 #[.val (.int p1), .val (.int p2), .val (.int p3), .val (.int p4), .val (.int (1 : Int32)), .val (.ref b1), .val (.int v6), .val (.ref b2), .val (.ref b1), .unset] [(.int (p2.toInt8.toInt32)), (.int (nar .byte (p2.toInt8.toInt32)))]))
      refine own_st (fun t k => XS.icmpYes X65.here hx rfl (pc0 := 117) (pc' := 122) rfl (hb hby at_117) rfl (teq (own_bb _)).1 (by decide) (by decide) k) ?_
      show own_G _ _ _ _ _ _ _ (T65.setTop (mkF m 122 #[.val (.int p1), .val (.int p2), .val (.int p3), .val (.int p4), .val (.int (1 : Int32)), .val (.ref b1), .val (.int v6), .val (.ref b2), .val (.ref b1), .unset] []))
      refine own_st (fun t k => XS.iload X65.here hx rfl (hb hby at_122) rfl k) ?_
      show own_G _ _ _ _ _ _ _ (T65.setTop (mkF m 124 #[.val (.int p1), .val (.int p2), .val (.int p3), .val (.int p4), .val (.int (1 : Int32)), .val (.ref b1), .val (.int v6), .val (.ref b2), .val (.ref b1), .unset] [(.int (1 : Int32))]))
      refine own_st (fun t k => XS.iconst X65.here hx rfl (hb hby at_124) k) ?_
      show own_G _ _ _ _ _ _ _ (T65.setTop (mkF m 125 #[.val (.int p1), .val (.int p2), .val (.int p3), .val (.int p4), .val (.int (1 : Int32)), .val (.ref b1), .val (.int v6), .val (.ref b2), .val (.ref b1), .unset] [(.int (1 : Int32)), (.int (1 : Int32))]))
      refine own_st (fun t k => XS.icmpYes X65.here hx rfl (pc0 := 125) (pc' := 142) rfl (hb hby at_125) rfl (flt (by decide)).2.2.2 (by decide) (by decide) k) ?_
      show own_G _ _ _ _ _ _ _ (T65.setTop (mkF m 142 #[.val (.int p1), .val (.int p2), .val (.int p3), .val (.int p4), .val (.int (1 : Int32)), .val (.ref b1), .val (.int v6), .val (.ref b2), .val (.ref b1), .unset] []))
      refine own_st (fun t k => XS.iload X65.here hx rfl (hb hby at_142) rfl k) ?_
      show own_G _ _ _ _ _ _ _ (T65.setTop (mkF m 144 #[.val (.int p1), .val (.int p2), .val (.int p3), .val (.int p4), .val (.int (1 : Int32)), .val (.ref b1), .val (.int v6), .val (.ref b2), .val (.ref b1), .unset] [(.int (1 : Int32))]))
      refine own_st (fun t k => XS.iconst X65.here hx rfl (hb hby at_144) k) ?_
      show own_G _ _ _ _ _ _ _ (T65.setTop (mkF m 145 #[.val (.int p1), .val (.int p2), .val (.int p3), .val (.int p4), .val (.int (1 : Int32)), .val (.ref b1), .val (.int v6), .val (.ref b2), .val (.ref b1), .unset] [(.int (2 : Int32)), (.int (1 : Int32))]))
      refine own_st (fun t k => XS.icmpYes X65.here hx rfl (pc0 := 145) (pc' := 162) rfl (hb hby at_145) rfl (flt (by decide)).2.2.2 (by decide) (by decide) k) ?_
      show own_G _ _ _ _ _ _ _ (T65.setTop (mkF m 162 #[.val (.int p1), .val (.int p2), .val (.int p3), .val (.int p4), .val (.int (1 : Int32)), .val (.ref b1), .val (.int v6), .val (.ref b2), .val (.ref b1), .unset] []))
      refine own_st (fun t k => XS.aload X65.here hx rfl (hb hby at_162) rfl rfl k) ?_
      show own_G _ _ _ _ _ _ _ (T65.setTop (mkF m 164 #[.val (.int p1), .val (.int p2), .val (.int p3), .val (.int p4), .val (.int (1 : Int32)), .val (.ref b1), .val (.int v6), .val (.ref b2), .val (.ref b1), .unset] [(.ref b2)]))
      obtain ⟨cq67, kq67, q67a, q67b, q67c⟩ := isOf hZ e65 Ax62
      obtain ⟨_, _, ⟨T67, L67, k67, n67⟩, -, X67, ⟨Lc67, hQ67, l67, y67, z67⟩, st67⟩ := X65.virtualBack hx (y := (⟨"com/example/groveledger/groveledger/Lines$Line", "whole", "()[B"⟩ : MethodName)) (z := (⟨"com/example/groveledger/groveledger/Lines$Line", "whole", "()[B"⟩ : MethodName)) hown (mvT hZ (hw _ (List.mem_of_getElem? (i := 23) rfl))) (mvT hZ (hw _ (List.mem_of_getElem? (i := 24) rfl))) (notFace_of_selects (args := #[]) (mvT hZ (hw _ (List.mem_of_getElem? (i := 26) rfl)))) (mvT hZ (hw _ (List.mem_of_getElem? (i := 26) rfl))) (mvT hZ (hw _ (List.mem_of_getElem? (i := 25) rfl))) (by decide) (backOf (W := 0) (own_rm3 l Z a0 hw [] b2 b1 T62.heap n0 Zz64 Fl62 Ft62) hZ (hw _ (List.mem_of_getElem? (i := 27) rfl)) (hw _ (List.mem_of_getElem? (i := 3) rfl)) (by decide) (by decide)) q67a q67c (g := (mkF m 164 #[.val (.int p1), .val (.int p2), .val (.int p3), .val (.int p4), .val (.int (1 : Int32)), .val (.ref b1), .val (.int v6), .val (.ref b2), .val (.ref b1), .unset] [(.ref b2)])) rfl (by rw [hml]; rfl) (Steps.refl _) (argsL := []) (rest := []) (lenOf own_pd1 rfl) rfl (by show 2 * 0 + _ ≤ _; exact Nat.le_of_eq rfl) (hb hby at_164) (fun _ _ => ⟨rfl, e65, (by decide : 2 + 0 ≤ _), (by decide : 5 + 0 ≤ _)⟩)
      dsimp only [Pt.U, Pt.locs, Pt.cells, Pt.slots] at X67 l67 y67 z67 st67 hQ67
      subst l67 y67 z67
      obtain ⟨rfl, N67q, e67⟩ := hQ67
      have N67 := Fr.app N65 N67q
      refine own_st (fun t k => st67.trans k) ?_
      show own_G _ _ _ _ _ _ _ (T67.setTop (mkF m 167 #[.val (.int p1), .val (.int p2), .val (.int p3), .val (.int p4), .val (.int (1 : Int32)), .val (.ref b1), .val (.int v6), .val (.ref b2), .val (.ref b1), .unset] [(.ref b1)]))
      refine own_st (fun t k => XS.astore X67.here hx rfl (hb hby at_167) rfl rfl (l' := #[.val (.int p1), .val (.int p2), .val (.int p3), .val (.int p4), .val (.int (1 : Int32)), .val (.ref b1), .val (.int v6), .val (.ref b2), .val (.ref b1), .val (.ref b1)]) rfl k) ?_
      show own_G _ _ _ _ _ _ _ (T67.setTop (mkF m 169 #[.val (.int p1), .val (.int p2), .val (.int p3), .val (.int p4), .val (.int (1 : Int32)), .val (.ref b1), .val (.int v6), .val (.ref b2), .val (.ref b1), .val (.ref b1)] []))
      refine own_st (fun t k => XS.aload X67.here hx rfl (hb hby at_169) rfl rfl k) ?_
      show own_G _ _ _ _ _ _ _ (T67.setTop (mkF m 171 #[.val (.int p1), .val (.int p2), .val (.int p3), .val (.int p4), .val (.int (1 : Int32)), .val (.ref b1), .val (.int v6), .val (.ref b2), .val (.ref b1), .val (.ref b1)] [(.ref b1)]))
      refine own_st (fun t k => XS.aload X67.here hx rfl (hb hby at_171) rfl rfl k) ?_
      show own_G _ _ _ _ _ _ _ (T67.setTop (mkF m 173 #[.val (.int p1), .val (.int p2), .val (.int p3), .val (.int p4), .val (.int (1 : Int32)), .val (.ref b1), .val (.int v6), .val (.ref b2), .val (.ref b1), .val (.ref b1)] [(.ref b1), (.ref b1)]))
      refine own_st (fun t k => Jvm.RoadKit.acmp (g := (mkF m 173 #[.val (.int p1), .val (.int p2), .val (.int p3), .val (.int p4), .val (.int (1 : Int32)), .val (.ref b1), .val (.int v6), .val (.ref b2), .val (.ref b1), .val (.ref b1)] [(.ref b1), (.ref b1)])) X67 hx rfl rfl rfl (pc0 := 173) (pc' := 176) (same := true) rfl (hb hby at_173) rfl (decide_eq_true (congrArg Value.ref rfl)) (by decide) (by decide) k) ?_
      show own_G _ _ _ _ _ _ _ (T67.setTop (mkF m 176 #[.val (.int p1), .val (.int p2), .val (.int p3), .val (.int p4), .val (.int (1 : Int32)), .val (.ref b1), .val (.int v6), .val (.ref b2), .val (.ref b1), .val (.ref b1)] []))
      refine own_st (fun t k => XS.aload X67.here hx rfl (hb hby at_176) rfl rfl k) ?_
      show own_G _ _ _ _ _ _ _ (T67.setTop (mkF m 178 #[.val (.int p1), .val (.int p2), .val (.int p3), .val (.int p4), .val (.int (1 : Int32)), .val (.ref b1), .val (.int v6), .val (.ref b2), .val (.ref b1), .val (.ref b1)] [(.ref b2)]))
      obtain ⟨cq68, kq68, q68a, q68b, q68c⟩ := isOf hZ e67 Ax62
      obtain ⟨_, _, ⟨T68, L68, k68, n68⟩, -, X68, ⟨Lc68, hQ68, l68, y68, z68⟩, st68⟩ := X67.virtualBack hx (y := (⟨"com/example/groveledger/groveledger/Lines$Line", "number", "()I"⟩ : MethodName)) (z := (⟨"com/example/groveledger/groveledger/Lines$Line", "number", "()I"⟩ : MethodName)) hown (mvT hZ (hw _ (List.mem_of_getElem? (i := 28) rfl))) (mvT hZ (hw _ (List.mem_of_getElem? (i := 29) rfl))) (notFace_of_selects (args := #[]) (mvT hZ (hw _ (List.mem_of_getElem? (i := 31) rfl)))) (mvT hZ (hw _ (List.mem_of_getElem? (i := 31) rfl))) (mvT hZ (hw _ (List.mem_of_getElem? (i := 30) rfl))) (by decide) (backOf (W := 0) (own_rm4 l Z a0 hw [] b2 p1 T62.heap n0 Zz64 Fn62) hZ (hw _ (List.mem_of_getElem? (i := 32) rfl)) (hw _ (List.mem_of_getElem? (i := 3) rfl)) (by decide) (by decide)) q68a q68c (g := (mkF m 178 #[.val (.int p1), .val (.int p2), .val (.int p3), .val (.int p4), .val (.int (1 : Int32)), .val (.ref b1), .val (.int v6), .val (.ref b2), .val (.ref b1), .val (.ref b1)] [(.ref b2)])) rfl (by rw [hml]; rfl) (Steps.refl _) (argsL := []) (rest := []) (lenOf own_pd2 rfl) rfl (by show 2 * 0 + _ ≤ _; exact Nat.le_of_eq rfl) (hb hby at_178) (fun _ _ => ⟨rfl, e67, (by decide : 2 + 0 ≤ _), (by decide : 5 + 0 ≤ _)⟩)
      dsimp only [Pt.U, Pt.locs, Pt.cells, Pt.slots] at X68 l68 y68 z68 st68 hQ68
      subst l68 y68 z68
      obtain ⟨rfl, N68q, e68⟩ := hQ68
      have N68 := Fr.app N67 N68q
      refine own_st (fun t k => st68.trans k) ?_
      show own_G _ _ _ _ _ _ _ (T68.setTop (mkF m 181 #[.val (.int p1), .val (.int p2), .val (.int p3), .val (.int p4), .val (.int (1 : Int32)), .val (.ref b1), .val (.int v6), .val (.ref b2), .val (.ref b1), .val (.ref b1)] [(.int p1)]))
      refine own_st (fun t k => XS.iloadN X68.here hx rfl (hb hby at_181) rfl k) ?_
      show own_G _ _ _ _ _ _ _ (T68.setTop (mkF m 182 #[.val (.int p1), .val (.int p2), .val (.int p3), .val (.int p4), .val (.int (1 : Int32)), .val (.ref b1), .val (.int v6), .val (.ref b2), .val (.ref b1), .val (.ref b1)] [(.int p1), (.int p1)]))
      refine own_st (fun t k => XS.icmpNo X68.here hx rfl (hb hby at_182) rfl (teq rfl).2 k) ?_
      show own_G _ _ _ _ _ _ _ (T68.setTop (mkF m 185 #[.val (.int p1), .val (.int p2), .val (.int p3), .val (.int p4), .val (.int (1 : Int32)), .val (.ref b1), .val (.int v6), .val (.ref b2), .val (.ref b1), .val (.ref b1)] []))
      refine own_st (fun t k => XS.aload X68.here hx rfl (hb hby at_185) rfl rfl k) ?_
      show own_G _ _ _ _ _ _ _ (T68.setTop (mkF m 187 #[.val (.int p1), .val (.int p2), .val (.int p3), .val (.int p4), .val (.int (1 : Int32)), .val (.ref b1), .val (.int v6), .val (.ref b2), .val (.ref b1), .val (.ref b1)] [(.ref b2)]))
      obtain ⟨cq69, kq69, q69a, q69b, q69c⟩ := isOf hZ e68 Ax62
      obtain ⟨_, _, ⟨T69, L69, k69, n69⟩, -, X69, ⟨Lc69, hQ69, l69, y69, z69⟩, st69⟩ := X68.virtualBack hx (y := (⟨"com/example/groveledger/groveledger/Lines$Line", "ended", "()Z"⟩ : MethodName)) (z := (⟨"com/example/groveledger/groveledger/Lines$Line", "ended", "()Z"⟩ : MethodName)) hown (mvT hZ (hw _ (List.mem_of_getElem? (i := 33) rfl))) (mvT hZ (hw _ (List.mem_of_getElem? (i := 34) rfl))) (notFace_of_selects (args := #[]) (mvT hZ (hw _ (List.mem_of_getElem? (i := 36) rfl)))) (mvT hZ (hw _ (List.mem_of_getElem? (i := 36) rfl))) (mvT hZ (hw _ (List.mem_of_getElem? (i := 35) rfl))) (by decide) (backOf (W := 0) (own_rm5 l Z a0 hw [] b2 (nar .boolean v6) T62.heap n0 Zz64 Fe62) hZ (hw _ (List.mem_of_getElem? (i := 37) rfl)) (hw _ (List.mem_of_getElem? (i := 3) rfl)) (by decide) (by decide)) q69a q69c (g := (mkF m 187 #[.val (.int p1), .val (.int p2), .val (.int p3), .val (.int p4), .val (.int (1 : Int32)), .val (.ref b1), .val (.int v6), .val (.ref b2), .val (.ref b1), .val (.ref b1)] [(.ref b2)])) rfl (by rw [hml]; rfl) (Steps.refl _) (argsL := []) (rest := []) (lenOf own_pd3 rfl) rfl (by show 2 * 0 + _ ≤ _; exact Nat.le_of_eq rfl) (hb hby at_187) (fun _ _ => ⟨rfl, e68, (by decide : 2 + 0 ≤ _), (by decide : 5 + 0 ≤ _)⟩)
      dsimp only [Pt.U, Pt.locs, Pt.cells, Pt.slots] at X69 l69 y69 z69 st69 hQ69
      subst l69 y69 z69
      obtain ⟨rfl, N69q, e69⟩ := hQ69
      have N69 := Fr.app N68 N69q
      refine own_st (fun t k => st69.trans k) ?_
      show own_G _ _ _ _ _ _ _ (T69.setTop (mkF m 190 #[.val (.int p1), .val (.int p2), .val (.int p3), .val (.int p4), .val (.int (1 : Int32)), .val (.ref b1), .val (.int v6), .val (.ref b2), .val (.ref b1), .val (.ref b1)] [(.int (nar .boolean (nar .boolean v6)))]))
      refine own_st (fun t k => XS.iload X69.here hx rfl (hb hby at_190) rfl k) ?_
      show own_G _ _ _ _ _ _ _ (T69.setTop (mkF m 192 #[.val (.int p1), .val (.int p2), .val (.int p3), .val (.int p4), .val (.int (1 : Int32)), .val (.ref b1), .val (.int v6), .val (.ref b2), .val (.ref b1), .val (.ref b1)] [(.int v6), (.int (nar .boolean (nar .boolean v6)))]))
      refine own_st (fun t k => XS.icmpNo X69.here hx rfl (hb hby at_192) rfl (teq (own_nb hv6)).2 k) ?_
      show own_G _ _ _ _ _ _ _ (T69.setTop (mkF m 195 #[.val (.int p1), .val (.int p2), .val (.int p3), .val (.int p4), .val (.int (1 : Int32)), .val (.ref b1), .val (.int v6), .val (.ref b2), .val (.ref b1), .val (.ref b1)] []))
      refine own_st (fun t k => XS.aload X69.here hx rfl (hb hby at_195) rfl rfl k) ?_
      show own_G _ _ _ _ _ _ _ (T69.setTop (mkF m 197 #[.val (.int p1), .val (.int p2), .val (.int p3), .val (.int p4), .val (.int (1 : Int32)), .val (.ref b1), .val (.int v6), .val (.ref b2), .val (.ref b1), .val (.ref b1)] [(.ref b2)]))
      obtain ⟨cq70, kq70, q70a, q70b, q70c⟩ := isOf hZ e69 Ax62
      obtain ⟨_, _, ⟨T70, L70, k70, n70⟩, -, X70, ⟨Lc70, hQ70, l70, y70, z70⟩, st70⟩ := X69.virtualBack hx (y := (⟨"com/example/groveledger/groveledger/Lines$Line", "tooLong", "()Z"⟩ : MethodName)) (z := (⟨"com/example/groveledger/groveledger/Lines$Line", "tooLong", "()Z"⟩ : MethodName)) hown (mvT hZ (hw _ (List.mem_of_getElem? (i := 38) rfl))) (mvT hZ (hw _ (List.mem_of_getElem? (i := 39) rfl))) (notFace_of_selects (args := #[]) (mvT hZ (hw _ (List.mem_of_getElem? (i := 41) rfl)))) (mvT hZ (hw _ (List.mem_of_getElem? (i := 41) rfl))) (mvT hZ (hw _ (List.mem_of_getElem? (i := 40) rfl))) (by decide) (backOf (W := 0) (own_rm6 l Z a0 hw [] b2 0 T62.heap n0 Zz64 Fl62) hZ (hw _ (List.mem_of_getElem? (i := 42) rfl)) (hw _ (List.mem_of_getElem? (i := 3) rfl)) (by decide) (by decide)) q70a q70c (g := (mkF m 197 #[.val (.int p1), .val (.int p2), .val (.int p3), .val (.int p4), .val (.int (1 : Int32)), .val (.ref b1), .val (.int v6), .val (.ref b2), .val (.ref b1), .val (.ref b1)] [(.ref b2)])) rfl (by rw [hml]; rfl) (Steps.refl _) (argsL := []) (rest := []) (lenOf own_pd3 rfl) rfl (by show 2 * 0 + _ ≤ _; exact Nat.le_of_eq rfl) (hb hby at_197) (fun _ _ => ⟨rfl, e69, (by decide : 2 + 0 ≤ _), (by decide : 5 + 0 ≤ _)⟩)
      dsimp only [Pt.U, Pt.locs, Pt.cells, Pt.slots] at X70 l70 y70 z70 st70 hQ70
      subst l70 y70 z70
      obtain ⟨rfl, N70q, e70⟩ := hQ70
      have N70 := Fr.app N69 N70q
      refine own_st (fun t k => st70.trans k) ?_
      show own_G _ _ _ _ _ _ _ (T70.setTop (mkF m 200 #[.val (.int p1), .val (.int p2), .val (.int p3), .val (.int p4), .val (.int (1 : Int32)), .val (.ref b1), .val (.int v6), .val (.ref b2), .val (.ref b1), .val (.ref b1)] [(.int (nar .boolean (0 : Int32)))]))
      refine own_st (fun t k => XS.ifNo X70.here hx rfl (hb hby at_200) rfl ((if0 _ _).trans (teq own_z).2) k) ?_
      show own_G _ _ _ _ _ _ _ (T70.setTop (mkF m 203 #[.val (.int p1), .val (.int p2), .val (.int p3), .val (.int p4), .val (.int (1 : Int32)), .val (.ref b1), .val (.int v6), .val (.ref b2), .val (.ref b1), .val (.ref b1)] []))
      refine own_st (fun t k => XS.iconst X70.here hx rfl (hb hby at_203) k) ?_
      show own_G _ _ _ _ _ _ _ (T70.setTop (mkF m 204 #[.val (.int p1), .val (.int p2), .val (.int p3), .val (.int p4), .val (.int (1 : Int32)), .val (.ref b1), .val (.int v6), .val (.ref b2), .val (.ref b1), .val (.ref b1)] [(.int (1 : Int32))]))
      refine own_st (fun t k => XS.goto X70.here hx rfl (pc0 := 204) (pc' := 208) rfl (hb hby at_204) (by decide) (by decide) k) ?_
      show own_G _ _ _ _ _ _ _ (T70.setTop (mkF m 208 #[.val (.int p1), .val (.int p2), .val (.int p3), .val (.int p4), .val (.int (1 : Int32)), .val (.ref b1), .val (.int v6), .val (.ref b2), .val (.ref b1), .val (.ref b1)] [(.int (1 : Int32))]))
      exact own_retN (t := .boolean) (by simp) X70 hx Bd.returns (BodyLoose.notSynchronized Bd) (hb hby at_208) (by decide) (by decide) ⟨rfl, N70⟩
    by_cases h6 : (p4 &&& (1 : Int32)) = (0 : Int32)
    · refine own_st (fun t k => XS.ifYes X57.here hx rfl (pc0 := 55) (pc' := 62) rfl (hb hby at_55) rfl ((if0 _ _).trans (teq h6).1) (by decide) (by decide) k) ?_
      show own_G _ _ _ _ _ _ _ (T57.setTop (mkF m 62 #[.val (.int p1), .val (.int p2), .val (.int p3), .val (.int p4), .val (.int (1 : Int32)), .val (.ref b1), .unset, .unset, .unset, .unset] []))
      refine own_st (fun t k => XS.iconst X57.here hx rfl (hb hby at_62) k) ?_
      show own_G _ _ _ _ _ _ _ (T57.setTop (mkF m 63 #[.val (.int p1), .val (.int p2), .val (.int p3), .val (.int p4), .val (.int (1 : Int32)), .val (.ref b1), .unset, .unset, .unset, .unset] [(.int (0 : Int32))]))
      exact J _ (Or.inl rfl)
    · refine own_st (fun t k => XS.ifNo X57.here hx rfl (hb hby at_55) rfl ((if0 _ _).trans (feq h6).1) k) ?_
      show own_G _ _ _ _ _ _ _ (T57.setTop (mkF m 58 #[.val (.int p1), .val (.int p2), .val (.int p3), .val (.int p4), .val (.int (1 : Int32)), .val (.ref b1), .unset, .unset, .unset, .unset] []))
      refine own_st (fun t k => XS.iconst X57.here hx rfl (hb hby at_58) k) ?_
      show own_G _ _ _ _ _ _ _ (T57.setTop (mkF m 59 #[.val (.int p1), .val (.int p2), .val (.int p3), .val (.int p4), .val (.int (1 : Int32)), .val (.ref b1), .unset, .unset, .unset, .unset] [(.int (1 : Int32))]))
      refine own_st (fun t k => XS.goto X57.here hx rfl (pc0 := 59) (pc' := 63) rfl (hb hby at_59) (by decide) (by decide) k) ?_
      show own_G _ _ _ _ _ _ _ (T57.setTop (mkF m 63 #[.val (.int p1), .val (.int p2), .val (.int p3), .val (.int p4), .val (.int (1 : Int32)), .val (.ref b1), .unset, .unset, .unset, .unset] [(.int (1 : Int32))]))
      exact J _ (Or.inr rfl)
  · rw [hn]
    show own_G _ _ _ _ _ _ _ (s₁.setTop (mkF m 5 #[.val (.int p1), .val (.int p2), .val (.int p3), .val (.int p4), .val (.int (2 : Int32)), .unset, .unset, .unset, .unset, .unset] []))
    refine own_st (fun t k => XS.iload X0.here hx rfl (hb hby at_5) rfl k) ?_
    show own_G _ _ _ _ _ _ _ (s₁.setTop (mkF m 7 #[.val (.int p1), .val (.int p2), .val (.int p3), .val (.int p4), .val (.int (2 : Int32)), .unset, .unset, .unset, .unset, .unset] [(.int (2 : Int32))]))
    obtain ⟨T71, h71, k71, X71, e71, E71, A71, st71⟩ := newP X0 hx hZ (hw _ (List.mem_of_getElem? (i := 0) rfl)) e0 (g := (mkF m 7 #[.val (.int p1), .val (.int p2), .val (.int p3), .val (.int p4), .val (.int (2 : Int32)), .unset, .unset, .unset, .unset, .unset] [(.int (2 : Int32))])) rfl (hb hby at_7) rfl (by decide) (cap := 2) (by decide) (by decide) (by decide) (by decide)
    obtain ⟨b1, g71⟩ : ∃ z, z = h0.size := ⟨_, rfl⟩
    rw [← g71] at A71 st71
    refine own_st (fun t k => st71 t k) ?_
    show own_G _ _ _ _ _ _ _ (T71.setTop (mkF m 9 #[.val (.int p1), .val (.int p2), .val (.int p3), .val (.int p4), .val (.int (2 : Int32)), .unset, .unset, .unset, .unset, .unset] [(.ref b1)]))
    have ge_b1 : n0 ≤ b1 := Nat.le_trans Z0 (Nat.le_of_eq g71.symm)
    have Zz72 : n0 ≤ h71.size := Nat.le_trans Z0 E71.1
    have V_0 : Arv Z h71 b1 k71 .byte 2 [(.int 0), (.int 0)] (.int 0) := (Arv.new A71 (by decide)).pad (pad_rep [] (.int 0) 2)
    refine own_st (fun t k => XS.astore X71.here hx rfl (hb hby at_9) rfl rfl (l' := #[.val (.int p1), .val (.int p2), .val (.int p3), .val (.int p4), .val (.int (2 : Int32)), .val (.ref b1), .unset, .unset, .unset, .unset]) rfl k) ?_
    show own_G _ _ _ _ _ _ _ (T71.setTop (mkF m 11 #[.val (.int p1), .val (.int p2), .val (.int p3), .val (.int p4), .val (.int (2 : Int32)), .val (.ref b1), .unset, .unset, .unset, .unset] []))
    refine own_st (fun t k => XS.iload X71.here hx rfl (hb hby at_11) rfl k) ?_
    show own_G _ _ _ _ _ _ _ (T71.setTop (mkF m 13 #[.val (.int p1), .val (.int p2), .val (.int p3), .val (.int p4), .val (.int (2 : Int32)), .val (.ref b1), .unset, .unset, .unset, .unset] [(.int (2 : Int32))]))
    refine own_st (fun t k => XS.ifNo X71.here hx rfl (hb hby at_13) rfl ((if0 _ _).trans (tlt (by decide)).2.2.2) k) ?_
    show own_G _ _ _ _ _ _ _ (T71.setTop (mkF m 16 #[.val (.int p1), .val (.int p2), .val (.int p3), .val (.int p4), .val (.int (2 : Int32)), .val (.ref b1), .unset, .unset, .unset, .unset] []))
    refine own_st (fun t k => XS.aload X71.here hx rfl (hb hby at_16) rfl rfl k) ?_
    show own_G _ _ _ _ _ _ _ (T71.setTop (mkF m 18 #[.val (.int p1), .val (.int p2), .val (.int p3), .val (.int p4), .val (.int (2 : Int32)), .val (.ref b1), .unset, .unset, .unset, .unset] [(.ref b1)]))
    refine own_st (fun t k => XS.iconst X71.here hx rfl (hb hby at_18) k) ?_
    show own_G _ _ _ _ _ _ _ (T71.setTop (mkF m 19 #[.val (.int p1), .val (.int p2), .val (.int p3), .val (.int p4), .val (.int (2 : Int32)), .val (.ref b1), .unset, .unset, .unset, .unset] [(.int (0 : Int32)), (.ref b1)]))
    refine own_st (fun t k => XS.iloadN X71.here hx rfl (hb hby at_19) rfl k) ?_
    show own_G _ _ _ _ _ _ _ (T71.setTop (mkF m 20 #[.val (.int p1), .val (.int p2), .val (.int p3), .val (.int p4), .val (.int (2 : Int32)), .val (.ref b1), .unset, .unset, .unset, .unset] [(.int p2), (.int (0 : Int32)), (.ref b1)]))
    refine own_st (fun t k => XS.i2b X71.here hx rfl (hb hby at_20) rfl k) ?_
    show own_G _ _ _ _ _ _ _ (T71.setTop (mkF m 21 #[.val (.int p1), .val (.int p2), .val (.int p3), .val (.int p4), .val (.int (2 : Int32)), .val (.ref b1), .unset, .unset, .unset, .unset] [(.int (p2.toInt8.toInt32)), (.int (0 : Int32)), (.ref b1)]))
    obtain ⟨cl73, Ar73, q73, S73, M73, H73, G73⟩ := V_0
    have hin73 : ¬ ((0 : Int32) < 0 ∨ cl73.slots.size ≤ ((0 : Int32)).toNatClampNeg) := inb_of S73 ⟨by decide, by decide⟩
    obtain ⟨T74, h74, X74, e74, W74, st74⟩ := Jvm.RoadKit.stB X71 hx hZ e71 Ar73 (j := (0 : Int32)) hin73 (g := (mkF m 21 #[.val (.int p1), .val (.int p2), .val (.int p3), .val (.int p4), .val (.int (2 : Int32)), .val (.ref b1), .unset, .unset, .unset, .unset] [(.int (p2.toInt8.toInt32)), (.int (0 : Int32)), (.ref b1)])) rfl rfl (hb hby at_21)
    have N74 := Fr.snoc X74 N0 ge_b1
    refine own_st (fun t k => st74 t k) ?_
    show own_G _ _ _ _ _ _ _ (T74.setTop (mkF m 22 #[.val (.int p1), .val (.int p2), .val (.int p3), .val (.int p4), .val (.int (2 : Int32)), .val (.ref b1), .unset, .unset, .unset, .unset] []))
    have V_74 : Arv Z h74 b1 k71 .byte 2 [(.int (nar .byte (p2.toInt8.toInt32))), (.int 0)] (.int 0) := Arv.set Ar73 q73 S73 M73 H73 G73 (fits_nar_byte _) W74 0 rfl (Nat.le_of_ble_eq_true rfl)
    have Zz75 : n0 ≤ h74.size := Nat.le_trans Zz72 (Keep.of_wr W74).1
    refine own_st (fun t k => XS.iload X74.here hx rfl (hb hby at_22) rfl k) ?_
    show own_G _ _ _ _ _ _ _ (T74.setTop (mkF m 24 #[.val (.int p1), .val (.int p2), .val (.int p3), .val (.int p4), .val (.int (2 : Int32)), .val (.ref b1), .unset, .unset, .unset, .unset] [(.int (2 : Int32))]))
    refine own_st (fun t k => XS.iconst X74.here hx rfl (hb hby at_24) k) ?_
    show own_G _ _ _ _ _ _ _ (T74.setTop (mkF m 25 #[.val (.int p1), .val (.int p2), .val (.int p3), .val (.int p4), .val (.int (2 : Int32)), .val (.ref b1), .unset, .unset, .unset, .unset] [(.int (1 : Int32)), (.int (2 : Int32))]))
    refine own_st (fun t k => XS.icmpNo X74.here hx rfl (hb hby at_25) rfl (tlt (by decide)).2.2.2 k) ?_
    show own_G _ _ _ _ _ _ _ (T74.setTop (mkF m 28 #[.val (.int p1), .val (.int p2), .val (.int p3), .val (.int p4), .val (.int (2 : Int32)), .val (.ref b1), .unset, .unset, .unset, .unset] []))
    refine own_st (fun t k => XS.aload X74.here hx rfl (hb hby at_28) rfl rfl k) ?_
    show own_G _ _ _ _ _ _ _ (T74.setTop (mkF m 30 #[.val (.int p1), .val (.int p2), .val (.int p3), .val (.int p4), .val (.int (2 : Int32)), .val (.ref b1), .unset, .unset, .unset, .unset] [(.ref b1)]))
    refine own_st (fun t k => XS.iconst X74.here hx rfl (hb hby at_30) k) ?_
    show own_G _ _ _ _ _ _ _ (T74.setTop (mkF m 31 #[.val (.int p1), .val (.int p2), .val (.int p3), .val (.int p4), .val (.int (2 : Int32)), .val (.ref b1), .unset, .unset, .unset, .unset] [(.int (1 : Int32)), (.ref b1)]))
    refine own_st (fun t k => XS.iloadN X74.here hx rfl (hb hby at_31) rfl k) ?_
    show own_G _ _ _ _ _ _ _ (T74.setTop (mkF m 32 #[.val (.int p1), .val (.int p2), .val (.int p3), .val (.int p4), .val (.int (2 : Int32)), .val (.ref b1), .unset, .unset, .unset, .unset] [(.int p2), (.int (1 : Int32)), (.ref b1)]))
    refine own_st (fun t k => XS.bipush X74.here hx rfl (hb hby at_32) k) ?_
    show own_G _ _ _ _ _ _ _ (T74.setTop (mkF m 34 #[.val (.int p1), .val (.int p2), .val (.int p3), .val (.int p4), .val (.int (2 : Int32)), .val (.ref b1), .unset, .unset, .unset, .unset] [(.int (8 : Int32)), (.int p2), (.int (1 : Int32)), (.ref b1)]))
    refine own_st (fun t k => XS.ishr X74.here hx rfl (hb hby at_34) rfl k) ?_
    show own_G _ _ _ _ _ _ _ (T74.setTop (mkF m 35 #[.val (.int p1), .val (.int p2), .val (.int p3), .val (.int p4), .val (.int (2 : Int32)), .val (.ref b1), .unset, .unset, .unset, .unset] [(.int (p2 >>> ((8 : Int32) &&& 31))), (.int (1 : Int32)), (.ref b1)]))
    refine own_st (fun t k => XS.i2b X74.here hx rfl (hb hby at_35) rfl k) ?_
    show own_G _ _ _ _ _ _ _ (T74.setTop (mkF m 36 #[.val (.int p1), .val (.int p2), .val (.int p3), .val (.int p4), .val (.int (2 : Int32)), .val (.ref b1), .unset, .unset, .unset, .unset] [(.int ((p2 >>> ((8 : Int32) &&& 31)).toInt8.toInt32)), (.int (1 : Int32)), (.ref b1)]))
    obtain ⟨cl76, Ar76, q76, S76, M76, H76, G76⟩ := V_74
    have hin76 : ¬ ((1 : Int32) < 0 ∨ cl76.slots.size ≤ ((1 : Int32)).toNatClampNeg) := inb_of S76 ⟨by decide, by decide⟩
    obtain ⟨T77, h77, X77, e77, W77, st77⟩ := Jvm.RoadKit.stB X74 hx hZ e74 Ar76 (j := (1 : Int32)) hin76 (g := (mkF m 36 #[.val (.int p1), .val (.int p2), .val (.int p3), .val (.int p4), .val (.int (2 : Int32)), .val (.ref b1), .unset, .unset, .unset, .unset] [(.int ((p2 >>> ((8 : Int32) &&& 31)).toInt8.toInt32)), (.int (1 : Int32)), (.ref b1)])) rfl rfl (hb hby at_36)
    have N77 := Fr.snoc X77 N74 ge_b1
    refine own_st (fun t k => st77 t k) ?_
    show own_G _ _ _ _ _ _ _ (T77.setTop (mkF m 37 #[.val (.int p1), .val (.int p2), .val (.int p3), .val (.int p4), .val (.int (2 : Int32)), .val (.ref b1), .unset, .unset, .unset, .unset] []))
    have V_77 : Arv Z h77 b1 k71 .byte 2 [(.int (nar .byte (p2.toInt8.toInt32))), (.int (nar .byte ((p2 >>> ((8 : Int32) &&& 31)).toInt8.toInt32)))] (.int 0) := Arv.set Ar76 q76 S76 M76 H76 G76 (fits_nar_byte _) W77 1 rfl (Nat.le_of_ble_eq_true rfl)
    have Zz78 : n0 ≤ h77.size := Nat.le_trans Zz75 (Keep.of_wr W77).1
    refine own_st (fun t k => XS.iload X77.here hx rfl (hb hby at_37) rfl k) ?_
    show own_G _ _ _ _ _ _ _ (T77.setTop (mkF m 39 #[.val (.int p1), .val (.int p2), .val (.int p3), .val (.int p4), .val (.int (2 : Int32)), .val (.ref b1), .unset, .unset, .unset, .unset] [(.int (2 : Int32))]))
    refine own_st (fun t k => XS.iconst X77.here hx rfl (hb hby at_39) k) ?_
    show own_G _ _ _ _ _ _ _ (T77.setTop (mkF m 40 #[.val (.int p1), .val (.int p2), .val (.int p3), .val (.int p4), .val (.int (2 : Int32)), .val (.ref b1), .unset, .unset, .unset, .unset] [(.int (2 : Int32)), (.int (2 : Int32))]))
    refine own_st (fun t k => XS.icmpYes X77.here hx rfl (pc0 := 40) (pc' := 52) rfl (hb hby at_40) rfl (flt (by decide)).2.2.2 (by decide) (by decide) k) ?_
    show own_G _ _ _ _ _ _ _ (T77.setTop (mkF m 52 #[.val (.int p1), .val (.int p2), .val (.int p3), .val (.int p4), .val (.int (2 : Int32)), .val (.ref b1), .unset, .unset, .unset, .unset] []))
    refine own_st (fun t k => XS.iloadN X77.here hx rfl (hb hby at_52) rfl k) ?_
    show own_G _ _ _ _ _ _ _ (T77.setTop (mkF m 53 #[.val (.int p1), .val (.int p2), .val (.int p3), .val (.int p4), .val (.int (2 : Int32)), .val (.ref b1), .unset, .unset, .unset, .unset] [(.int p4)]))
    refine own_st (fun t k => XS.iconst X77.here hx rfl (hb hby at_53) k) ?_
    show own_G _ _ _ _ _ _ _ (T77.setTop (mkF m 54 #[.val (.int p1), .val (.int p2), .val (.int p3), .val (.int p4), .val (.int (2 : Int32)), .val (.ref b1), .unset, .unset, .unset, .unset] [(.int (1 : Int32)), (.int p4)]))
    refine own_st (fun t k => XS.iand X77.here hx rfl (hb hby at_54) rfl k) ?_
    show own_G _ _ _ _ _ _ _ (T77.setTop (mkF m 55 #[.val (.int p1), .val (.int p2), .val (.int p3), .val (.int p4), .val (.int (2 : Int32)), .val (.ref b1), .unset, .unset, .unset, .unset] [(.int (p4 &&& (1 : Int32)))]))
    have J : ∀ (v6 : Int32), (v6 = 0 ∨ v6 = 1) → own_G p.tables e below s (own_Q0 n0) room_1.cells room_1.slots (T77.setTop (mkF m 63 #[.val (.int p1), .val (.int p2), .val (.int p3), .val (.int p4), .val (.int (2 : Int32)), .val (.ref b1), .unset, .unset, .unset, .unset] [(.int v6)])) := by
      intro v6 hv6
      refine own_st (fun t k => XS.istore X77.here hx rfl (hb hby at_63) rfl (l' := #[.val (.int p1), .val (.int p2), .val (.int p3), .val (.int p4), .val (.int (2 : Int32)), .val (.ref b1), .val (.int v6), .unset, .unset, .unset]) rfl k) ?_
      show own_G _ _ _ _ _ _ _ (T77.setTop (mkF m 65 #[.val (.int p1), .val (.int p2), .val (.int p3), .val (.int p4), .val (.int (2 : Int32)), .val (.ref b1), .val (.int v6), .unset, .unset, .unset] []))
      obtain ⟨T79, h79, X79, e79, E79, A79, D79, -, st79⟩ := newO X77 hx hZ hown (hw _ (List.mem_of_getElem? (i := 1) rfl)) (hw _ (List.mem_of_getElem? (i := 2) rfl)) (hw _ (List.mem_of_getElem? (i := 3) rfl)) e77 (g := (mkF m 65 #[.val (.int p1), .val (.int p2), .val (.int p3), .val (.int p4), .val (.int (2 : Int32)), .val (.ref b1), .val (.int v6), .unset, .unset, .unset] [])) rfl (hb hby at_65) (by decide) (by decide)
      obtain ⟨b2, g79⟩ : ∃ z, z = h77.size := ⟨_, rfl⟩
      rw [← g79] at A79 D79 st79
      refine own_st (fun t k => st79 t k) ?_
      show own_G _ _ _ _ _ _ _ (T79.setTop (mkF m 68 #[.val (.int p1), .val (.int p2), .val (.int p3), .val (.int p4), .val (.int (2 : Int32)), .val (.ref b1), .val (.int v6), .unset, .unset, .unset] [(.ref b2)]))
      have ge_b2 : n0 ≤ b2 := Nat.le_trans Zz78 (Nat.le_of_eq g79.symm)
      have ne_b1_b2 : b1 ≠ b2 := Nat.ne_of_lt (Nat.lt_of_lt_of_le V_77.lt (Nat.le_of_eq g79.symm))
      have V_80 := V_77.ext E79
      have Zz81 : n0 ≤ h79.size := Nat.le_trans Zz78 E79.1
      have F_number : Fld Z h79 b2 "com/example/groveledger/groveledger/Lines$Line" "number" "I" (.int 0) := D79 (Or.inr (hw _ (List.mem_of_getElem? (i := 16) rfl))) (ty := .int) (by decide)
      have F_text : Fld Z h79 b2 "com/example/groveledger/groveledger/Lines$Line" "text" "[B" .null := D79 (Or.inr (hw _ (List.mem_of_getElem? (i := 18) rfl))) (ty := (.array .byte)) (by decide)
      have F_ended : Fld Z h79 b2 "com/example/groveledger/groveledger/Lines$Line" "ended" "Z" (.int 0) := D79 (Or.inr (hw _ (List.mem_of_getElem? (i := 20) rfl))) (ty := .boolean) (by decide)
      have F_tooLong : Fld Z h79 b2 "com/example/groveledger/groveledger/Lines$Line" "tooLong" "Z" (.int 0) := D79 (Or.inr (hw _ (List.mem_of_getElem? (i := 22) rfl))) (ty := .boolean) (by decide)
      refine own_st (fun t k => XS.dup X79.here hx rfl (hb hby at_68) rfl rfl k) ?_
      show own_G _ _ _ _ _ _ _ (T79.setTop (mkF m 69 #[.val (.int p1), .val (.int p2), .val (.int p3), .val (.int p4), .val (.int (2 : Int32)), .val (.ref b1), .val (.int v6), .unset, .unset, .unset] [(.ref b2), (.ref b2)]))
      refine own_st (fun t k => XS.iloadN X79.here hx rfl (hb hby at_69) rfl k) ?_
      show own_G _ _ _ _ _ _ _ (T79.setTop (mkF m 70 #[.val (.int p1), .val (.int p2), .val (.int p3), .val (.int p4), .val (.int (2 : Int32)), .val (.ref b1), .val (.int v6), .unset, .unset, .unset] [(.int p1), (.ref b2), (.ref b2)]))
      refine own_st (fun t k => XS.aload X79.here hx rfl (hb hby at_70) rfl rfl k) ?_
      show own_G _ _ _ _ _ _ _ (T79.setTop (mkF m 72 #[.val (.int p1), .val (.int p2), .val (.int p3), .val (.int p4), .val (.int (2 : Int32)), .val (.ref b1), .val (.int v6), .unset, .unset, .unset] [(.ref b1), (.int p1), (.ref b2), (.ref b2)]))
      refine own_st (fun t k => XS.iload X79.here hx rfl (hb hby at_72) rfl k) ?_
      show own_G _ _ _ _ _ _ _ (T79.setTop (mkF m 74 #[.val (.int p1), .val (.int p2), .val (.int p3), .val (.int p4), .val (.int (2 : Int32)), .val (.ref b1), .val (.int v6), .unset, .unset, .unset] [(.int v6), (.ref b1), (.int p1), (.ref b2), (.ref b2)]))
      refine own_st (fun t k => XS.iconst X79.here hx rfl (hb hby at_74) k) ?_
      show own_G _ _ _ _ _ _ _ (T79.setTop (mkF m 75 #[.val (.int p1), .val (.int p2), .val (.int p3), .val (.int p4), .val (.int (2 : Int32)), .val (.ref b1), .val (.int v6), .unset, .unset, .unset] [(.int (0 : Int32)), (.int v6), (.ref b1), (.int p1), (.ref b2), (.ref b2)]))
      obtain ⟨_, _, ⟨T82, L82, k82, n82⟩, -, X82, ⟨Lc82, hQ82, l82, y82, z82⟩, st82⟩ := X79.specialBack hx (y := (⟨"com/example/groveledger/groveledger/Lines$Line", "<init>", "(I[BZZ)V"⟩ : MethodName)) rfl hown (mvT hZ (hw _ (List.mem_of_getElem? (i := 4) rfl))) (mvT hZ (hw _ (List.mem_of_getElem? (i := 5) rfl))) (mvT hZ (hw _ (List.mem_of_getElem? (i := 6) rfl))) (by decide) (backOf (W := 1) (own_rm1 l Z a0 hw [] b2 p1 b1 v6 0 h79 n0 Zz81 A79 F_number F_text F_ended F_tooLong ge_b2) hZ (hw _ (List.mem_of_getElem? (i := 6) rfl)) (hw _ (List.mem_of_getElem? (i := 3) rfl)) (by decide) (by decide)) (g := (mkF m 75 #[.val (.int p1), .val (.int p2), .val (.int p3), .val (.int p4), .val (.int (2 : Int32)), .val (.ref b1), .val (.int v6), .unset, .unset, .unset] [(.int (0 : Int32)), (.int v6), (.ref b1), (.int p1), (.ref b2), (.ref b2)])) rfl (by rw [hml]; rfl) (Steps.refl _) (a := b2) (argsL := [(.int p1), (.ref b1), (.int v6), (.int (0 : Int32))]) (rest := [(.ref b2)]) (lenOf own_pd0 rfl) rfl (by show 2 * 0 + _ ≤ _; exact Nat.le_of_eq rfl) (hb hby at_75) (fun _ _ => ⟨rfl, e79, (by decide : 2 + 0 ≤ _), (by decide : 6 + 0 ≤ _)⟩)
      dsimp only [Pt.U, Pt.locs, Pt.cells, Pt.slots] at X82 l82 y82 z82 st82 hQ82
      subst l82 y82 z82
      obtain ⟨rfl, N82q, K82, Ax82, Fn82, Ft82, Fe82, Fl82⟩ := hQ82
      have N82 := Fr.app N77 N82q
      refine own_st (fun t k => st82.trans k) ?_
      show own_G _ _ _ _ _ _ _ (T82.setTop (mkF m 78 #[.val (.int p1), .val (.int p2), .val (.int p3), .val (.int p4), .val (.int (2 : Int32)), .val (.ref b1), .val (.int v6), .unset, .unset, .unset] [(.ref b2)]))
      have V_83 := V_80.keep K82 (ninS ne_b1_b2 nin0)
      have Zz84 : n0 ≤ _ := Nat.le_trans Zz81 K82.1
      rw [own_z] at Fl82
      refine own_st (fun t k => XS.astore X82.here hx rfl (hb hby at_78) rfl rfl (l' := #[.val (.int p1), .val (.int p2), .val (.int p3), .val (.int p4), .val (.int (2 : Int32)), .val (.ref b1), .val (.int v6), .val (.ref b2), .unset, .unset]) rfl k) ?_
      show own_G _ _ _ _ _ _ _ (T82.setTop (mkF m 80 #[.val (.int p1), .val (.int p2), .val (.int p3), .val (.int p4), .val (.int (2 : Int32)), .val (.ref b1), .val (.int v6), .val (.ref b2), .unset, .unset] []))
      refine own_st (fun t k => XS.aload X82.here hx rfl (hb hby at_80) rfl rfl k) ?_
      show own_G _ _ _ _ _ _ _ (T82.setTop (mkF m 82 #[.val (.int p1), .val (.int p2), .val (.int p3), .val (.int p4), .val (.int (2 : Int32)), .val (.ref b1), .val (.int v6), .val (.ref b2), .unset, .unset] [(.ref b2)]))
      obtain ⟨cq85, kq85, q85a, q85b, q85c⟩ := isOf hZ rfl Ax82
      obtain ⟨_, _, ⟨T85, L85, k85, n85⟩, -, X85, ⟨Lc85, hQ85, l85, y85, z85⟩, st85⟩ := X82.virtualBack hx (y := (⟨"com/example/groveledger/groveledger/Lines$Line", "whole", "()[B"⟩ : MethodName)) (z := (⟨"com/example/groveledger/groveledger/Lines$Line", "whole", "()[B"⟩ : MethodName)) hown (mvT hZ (hw _ (List.mem_of_getElem? (i := 23) rfl))) (mvT hZ (hw _ (List.mem_of_getElem? (i := 24) rfl))) (notFace_of_selects (args := #[]) (mvT hZ (hw _ (List.mem_of_getElem? (i := 26) rfl)))) (mvT hZ (hw _ (List.mem_of_getElem? (i := 26) rfl))) (mvT hZ (hw _ (List.mem_of_getElem? (i := 25) rfl))) (by decide) (backOf (W := 0) (own_rm3 l Z a0 hw [] b2 b1 T82.heap n0 Zz84 Fl82 Ft82) hZ (hw _ (List.mem_of_getElem? (i := 27) rfl)) (hw _ (List.mem_of_getElem? (i := 3) rfl)) (by decide) (by decide)) q85a q85c (g := (mkF m 82 #[.val (.int p1), .val (.int p2), .val (.int p3), .val (.int p4), .val (.int (2 : Int32)), .val (.ref b1), .val (.int v6), .val (.ref b2), .unset, .unset] [(.ref b2)])) rfl (by rw [hml]; rfl) (Steps.refl _) (argsL := []) (rest := []) (lenOf own_pd1 rfl) rfl (by show 2 * 0 + _ ≤ _; exact Nat.le_of_eq rfl) (hb hby at_82) (fun _ _ => ⟨rfl, rfl, (by decide : 2 + 0 ≤ _), (by decide : 6 + 0 ≤ _)⟩)
      dsimp only [Pt.U, Pt.locs, Pt.cells, Pt.slots] at X85 l85 y85 z85 st85 hQ85
      subst l85 y85 z85
      obtain ⟨rfl, N85q, e85⟩ := hQ85
      have N85 := Fr.app N82 N85q
      refine own_st (fun t k => st85.trans k) ?_
      show own_G _ _ _ _ _ _ _ (T85.setTop (mkF m 85 #[.val (.int p1), .val (.int p2), .val (.int p3), .val (.int p4), .val (.int (2 : Int32)), .val (.ref b1), .val (.int v6), .val (.ref b2), .unset, .unset] [(.ref b1)]))
      refine own_st (fun t k => XS.astore X85.here hx rfl (hb hby at_85) rfl rfl (l' := #[.val (.int p1), .val (.int p2), .val (.int p3), .val (.int p4), .val (.int (2 : Int32)), .val (.ref b1), .val (.int v6), .val (.ref b2), .val (.ref b1), .unset]) rfl k) ?_
      show own_G _ _ _ _ _ _ _ (T85.setTop (mkF m 87 #[.val (.int p1), .val (.int p2), .val (.int p3), .val (.int p4), .val (.int (2 : Int32)), .val (.ref b1), .val (.int v6), .val (.ref b2), .val (.ref b1), .unset] []))
      refine own_st (fun t k => XS.aload X85.here hx rfl (hb hby at_87) rfl rfl k) ?_
      show own_G _ _ _ _ _ _ _ (T85.setTop (mkF m 89 #[.val (.int p1), .val (.int p2), .val (.int p3), .val (.int p4), .val (.int (2 : Int32)), .val (.ref b1), .val (.int v6), .val (.ref b2), .val (.ref b1), .unset] [(.ref b1)]))
      refine own_st (fun t k => XS.aload X85.here hx rfl (hb hby at_89) rfl rfl k) ?_
      show own_G _ _ _ _ _ _ _ (T85.setTop (mkF m 91 #[.val (.int p1), .val (.int p2), .val (.int p3), .val (.int p4), .val (.int (2 : Int32)), .val (.ref b1), .val (.int v6), .val (.ref b2), .val (.ref b1), .unset] [(.ref b1), (.ref b1)]))
      refine own_st (fun t k => Jvm.RoadKit.acmp (g := (mkF m 91 #[.val (.int p1), .val (.int p2), .val (.int p3), .val (.int p4), .val (.int (2 : Int32)), .val (.ref b1), .val (.int v6), .val (.ref b2), .val (.ref b1), .unset] [(.ref b1), (.ref b1)])) X85 hx rfl rfl rfl (pc0 := 91) (pc' := 96) (same := true) rfl (hb hby at_91) rfl (decide_eq_true (congrArg Value.ref rfl)) (by decide) (by decide) k) ?_
      show own_G _ _ _ _ _ _ _ (T85.setTop (mkF m 96 #[.val (.int p1), .val (.int p2), .val (.int p3), .val (.int p4), .val (.int (2 : Int32)), .val (.ref b1), .val (.int v6), .val (.ref b2), .val (.ref b1), .unset] []))
      refine own_st (fun t k => XS.aload X85.here hx rfl (hb hby at_96) rfl rfl k) ?_
      show own_G _ _ _ _ _ _ _ (T85.setTop (mkF m 98 #[.val (.int p1), .val (.int p2), .val (.int p3), .val (.int p4), .val (.int (2 : Int32)), .val (.ref b1), .val (.int v6), .val (.ref b2), .val (.ref b1), .unset] [(.ref b1)]))
      obtain ⟨cl86, Ar86, q86, S86, M86, H86, G86⟩ := V_83
      refine own_st (fun t k => X85.arraylength hx (by rw [e85]; exact Ar86.1) (State.isArrayOf_alike hZ.alike Ar86.2.1) (g := (mkF m 98 #[.val (.int p1), .val (.int p2), .val (.int p3), .val (.int p4), .val (.int (2 : Int32)), .val (.ref b1), .val (.int v6), .val (.ref b2), .val (.ref b1), .unset] [(.ref b1)])) rfl rfl (hb hby at_98) t k) ?_
      rw [len_of S86 M86]
      show own_G _ _ _ _ _ _ _ (T85.setTop (mkF m 99 #[.val (.int p1), .val (.int p2), .val (.int p3), .val (.int p4), .val (.int (2 : Int32)), .val (.ref b1), .val (.int v6), .val (.ref b2), .val (.ref b1), .unset] [(.int 2)]))
      refine own_st (fun t k => XS.iload X85.here hx rfl (hb hby at_99) rfl k) ?_
      show own_G _ _ _ _ _ _ _ (T85.setTop (mkF m 101 #[.val (.int p1), .val (.int p2), .val (.int p3), .val (.int p4), .val (.int (2 : Int32)), .val (.ref b1), .val (.int v6), .val (.ref b2), .val (.ref b1), .unset] [(.int (2 : Int32)), (.int (2 : Int32))]))
      refine own_st (fun t k => XS.icmpYes X85.here hx rfl (pc0 := 101) (pc' := 106) rfl (hb hby at_101) rfl (teq rfl).1 (by decide) (by decide) k) ?_
      show own_G _ _ _ _ _ _ _ (T85.setTop (mkF m 106 #[.val (.int p1), .val (.int p2), .val (.int p3), .val (.int p4), .val (.int (2 : Int32)), .val (.ref b1), .val (.int v6), .val (.ref b2), .val (.ref b1), .unset] []))
      refine own_st (fun t k => XS.iload X85.here hx rfl (hb hby at_106) rfl k) ?_
      show own_G _ _ _ _ _ _ _ (T85.setTop (mkF m 108 #[.val (.int p1), .val (.int p2), .val (.int p3), .val (.int p4), .val (.int (2 : Int32)), .val (.ref b1), .val (.int v6), .val (.ref b2), .val (.ref b1), .unset] [(.int (2 : Int32))]))
      refine own_st (fun t k => XS.ifNo X85.here hx rfl (hb hby at_108) rfl ((if0 _ _).trans (tlt (by decide)).2.2.2) k) ?_
      show own_G _ _ _ _ _ _ _ (T85.setTop (mkF m 111 #[.val (.int p1), .val (.int p2), .val (.int p3), .val (.int p4), .val (.int (2 : Int32)), .val (.ref b1), .val (.int v6), .val (.ref b2), .val (.ref b1), .unset] []))
      refine own_st (fun t k => XS.aload X85.here hx rfl (hb hby at_111) rfl rfl k) ?_
      show own_G _ _ _ _ _ _ _ (T85.setTop (mkF m 113 #[.val (.int p1), .val (.int p2), .val (.int p3), .val (.int p4), .val (.int (2 : Int32)), .val (.ref b1), .val (.int v6), .val (.ref b2), .val (.ref b1), .unset] [(.ref b1)]))
      refine own_st (fun t k => XS.iconst X85.here hx rfl (hb hby at_113) k) ?_
      show own_G _ _ _ _ _ _ _ (T85.setTop (mkF m 114 #[.val (.int p1), .val (.int p2), .val (.int p3), .val (.int p4), .val (.int (2 : Int32)), .val (.ref b1), .val (.int v6), .val (.ref b2), .val (.ref b1), .unset] [(.int (0 : Int32)), (.ref b1)]))
      have hin0 : ¬ ((0 : Int32) < 0 ∨ cl86.slots.size ≤ ((0 : Int32)).toNatClampNeg) := inb_of S86 ⟨by decide, by decide⟩
      have hat0 : cl86.slots[((0 : Int32)).toNatClampNeg]? = some (.int (nar .byte (p2.toInt8.toInt32))) := Has.at H86 hin0 rfl
      refine own_st (fun t k => X85.baloadBytes hx (j := (0 : Int32)) (v := (.int (nar .byte (p2.toInt8.toInt32)))) (by rw [e85]; exact Ar86.1) (State.isArrayOf_alike hZ.alike Ar86.2.1) Ar86.2.2 hin0 hat0 (g := (mkF m 114 #[.val (.int p1), .val (.int p2), .val (.int p3), .val (.int p4), .val (.int (2 : Int32)), .val (.ref b1), .val (.int v6), .val (.ref b2), .val (.ref b1), .unset] [(.int (0 : Int32)), (.ref b1)])) rfl rfl (hb hby at_114) t k) ?_
      show own_G _ _ _ _ _ _ _ (T85.setTop (mkF m 115 #[.val (.int p1), .val (.int p2), .val (.int p3), .val (.int p4), .val (.int (2 : Int32)), .val (.ref b1), .val (.int v6), .val (.ref b2), .val (.ref b1), .unset] [(.int (nar .byte (p2.toInt8.toInt32)))]))
      refine own_st (fun t k => XS.iloadN X85.here hx rfl (hb hby at_115) rfl k) ?_
      show own_G _ _ _ _ _ _ _ (T85.setTop (mkF m 116 #[.val (.int p1), .val (.int p2), .val (.int p3), .val (.int p4), .val (.int (2 : Int32)), .val (.ref b1), .val (.int v6), .val (.ref b2), .val (.ref b1), .unset] [(.int p2), (.int (nar .byte (p2.toInt8.toInt32)))]))
      refine own_st (fun t k => XS.i2b X85.here hx rfl (hb hby at_116) rfl k) ?_
      show own_G _ _ _ _ _ _ _ (T85.setTop (mkF m 117 #[.val (.int p1), .val (.int p2), .val (.int p3), .val (.int p4), .val (.int (2 : Int32)), .val (.ref b1), .val (.int v6), .val (.ref b2), .val (.ref b1), .unset] [(.int (p2.toInt8.toInt32)), (.int (nar .byte (p2.toInt8.toInt32)))]))
      refine own_st (fun t k => XS.icmpYes X85.here hx rfl (pc0 := 117) (pc' := 122) rfl (hb hby at_117) rfl (teq (own_bb _)).1 (by decide) (by decide) k) ?_
      show own_G _ _ _ _ _ _ _ (T85.setTop (mkF m 122 #[.val (.int p1), .val (.int p2), .val (.int p3), .val (.int p4), .val (.int (2 : Int32)), .val (.ref b1), .val (.int v6), .val (.ref b2), .val (.ref b1), .unset] []))
      refine own_st (fun t k => XS.iload X85.here hx rfl (hb hby at_122) rfl k) ?_
      show own_G _ _ _ _ _ _ _ (T85.setTop (mkF m 124 #[.val (.int p1), .val (.int p2), .val (.int p3), .val (.int p4), .val (.int (2 : Int32)), .val (.ref b1), .val (.int v6), .val (.ref b2), .val (.ref b1), .unset] [(.int (2 : Int32))]))
      refine own_st (fun t k => XS.iconst X85.here hx rfl (hb hby at_124) k) ?_
      show own_G _ _ _ _ _ _ _ (T85.setTop (mkF m 125 #[.val (.int p1), .val (.int p2), .val (.int p3), .val (.int p4), .val (.int (2 : Int32)), .val (.ref b1), .val (.int v6), .val (.ref b2), .val (.ref b1), .unset] [(.int (1 : Int32)), (.int (2 : Int32))]))
      refine own_st (fun t k => XS.icmpNo X85.here hx rfl (hb hby at_125) rfl (tlt (by decide)).2.2.2 k) ?_
      show own_G _ _ _ _ _ _ _ (T85.setTop (mkF m 128 #[.val (.int p1), .val (.int p2), .val (.int p3), .val (.int p4), .val (.int (2 : Int32)), .val (.ref b1), .val (.int v6), .val (.ref b2), .val (.ref b1), .unset] []))
      refine own_st (fun t k => XS.aload X85.here hx rfl (hb hby at_128) rfl rfl k) ?_
      show own_G _ _ _ _ _ _ _ (T85.setTop (mkF m 130 #[.val (.int p1), .val (.int p2), .val (.int p3), .val (.int p4), .val (.int (2 : Int32)), .val (.ref b1), .val (.int v6), .val (.ref b2), .val (.ref b1), .unset] [(.ref b1)]))
      refine own_st (fun t k => XS.iconst X85.here hx rfl (hb hby at_130) k) ?_
      show own_G _ _ _ _ _ _ _ (T85.setTop (mkF m 131 #[.val (.int p1), .val (.int p2), .val (.int p3), .val (.int p4), .val (.int (2 : Int32)), .val (.ref b1), .val (.int v6), .val (.ref b2), .val (.ref b1), .unset] [(.int (1 : Int32)), (.ref b1)]))
      have hin1 : ¬ ((1 : Int32) < 0 ∨ cl86.slots.size ≤ ((1 : Int32)).toNatClampNeg) := inb_of S86 ⟨by decide, by decide⟩
      have hat1 : cl86.slots[((1 : Int32)).toNatClampNeg]? = some (.int (nar .byte ((p2 >>> ((8 : Int32) &&& 31)).toInt8.toInt32))) := Has.at H86 hin1 rfl
      refine own_st (fun t k => X85.baloadBytes hx (j := (1 : Int32)) (v := (.int (nar .byte ((p2 >>> ((8 : Int32) &&& 31)).toInt8.toInt32)))) (by rw [e85]; exact Ar86.1) (State.isArrayOf_alike hZ.alike Ar86.2.1) Ar86.2.2 hin1 hat1 (g := (mkF m 131 #[.val (.int p1), .val (.int p2), .val (.int p3), .val (.int p4), .val (.int (2 : Int32)), .val (.ref b1), .val (.int v6), .val (.ref b2), .val (.ref b1), .unset] [(.int (1 : Int32)), (.ref b1)])) rfl rfl (hb hby at_131) t k) ?_
      show own_G _ _ _ _ _ _ _ (T85.setTop (mkF m 132 #[.val (.int p1), .val (.int p2), .val (.int p3), .val (.int p4), .val (.int (2 : Int32)), .val (.ref b1), .val (.int v6), .val (.ref b2), .val (.ref b1), .unset] [(.int (nar .byte ((p2 >>> ((8 : Int32) &&& 31)).toInt8.toInt32)))]))
      refine own_st (fun t k => XS.iloadN X85.here hx rfl (hb hby at_132) rfl k) ?_
      show own_G _ _ _ _ _ _ _ (T85.setTop (mkF m 133 #[.val (.int p1), .val (.int p2), .val (.int p3), .val (.int p4), .val (.int (2 : Int32)), .val (.ref b1), .val (.int v6), .val (.ref b2), .val (.ref b1), .unset] [(.int p2), (.int (nar .byte ((p2 >>> ((8 : Int32) &&& 31)).toInt8.toInt32)))]))
      refine own_st (fun t k => XS.bipush X85.here hx rfl (hb hby at_133) k) ?_
      show own_G _ _ _ _ _ _ _ (T85.setTop (mkF m 135 #[.val (.int p1), .val (.int p2), .val (.int p3), .val (.int p4), .val (.int (2 : Int32)), .val (.ref b1), .val (.int v6), .val (.ref b2), .val (.ref b1), .unset] [(.int (8 : Int32)), (.int p2), (.int (nar .byte ((p2 >>> ((8 : Int32) &&& 31)).toInt8.toInt32)))]))
      refine own_st (fun t k => XS.ishr X85.here hx rfl (hb hby at_135) rfl k) ?_
      show own_G _ _ _ _ _ _ _ (T85.setTop (mkF m 136 #[.val (.int p1), .val (.int p2), .val (.int p3), .val (.int p4), .val (.int (2 : Int32)), .val (.ref b1), .val (.int v6), .val (.ref b2), .val (.ref b1), .unset] [(.int (p2 >>> ((8 : Int32) &&& 31))), (.int (nar .byte ((p2 >>> ((8 : Int32) &&& 31)).toInt8.toInt32)))]))
      refine own_st (fun t k => XS.i2b X85.here hx rfl (hb hby at_136) rfl k) ?_
      show own_G _ _ _ _ _ _ _ (T85.setTop (mkF m 137 #[.val (.int p1), .val (.int p2), .val (.int p3), .val (.int p4), .val (.int (2 : Int32)), .val (.ref b1), .val (.int v6), .val (.ref b2), .val (.ref b1), .unset] [(.int ((p2 >>> ((8 : Int32) &&& 31)).toInt8.toInt32)), (.int (nar .byte ((p2 >>> ((8 : Int32) &&& 31)).toInt8.toInt32)))]))
      refine own_st (fun t k => XS.icmpYes X85.here hx rfl (pc0 := 137) (pc' := 142) rfl (hb hby at_137) rfl (teq (own_bb _)).1 (by decide) (by decide) k) ?_
      show own_G _ _ _ _ _ _ _ (T85.setTop (mkF m 142 #[.val (.int p1), .val (.int p2), .val (.int p3), .val (.int p4), .val (.int (2 : Int32)), .val (.ref b1), .val (.int v6), .val (.ref b2), .val (.ref b1), .unset] []))
      refine own_st (fun t k => XS.iload X85.here hx rfl (hb hby at_142) rfl k) ?_
      show own_G _ _ _ _ _ _ _ (T85.setTop (mkF m 144 #[.val (.int p1), .val (.int p2), .val (.int p3), .val (.int p4), .val (.int (2 : Int32)), .val (.ref b1), .val (.int v6), .val (.ref b2), .val (.ref b1), .unset] [(.int (2 : Int32))]))
      refine own_st (fun t k => XS.iconst X85.here hx rfl (hb hby at_144) k) ?_
      show own_G _ _ _ _ _ _ _ (T85.setTop (mkF m 145 #[.val (.int p1), .val (.int p2), .val (.int p3), .val (.int p4), .val (.int (2 : Int32)), .val (.ref b1), .val (.int v6), .val (.ref b2), .val (.ref b1), .unset] [(.int (2 : Int32)), (.int (2 : Int32))]))
      refine own_st (fun t k => XS.icmpYes X85.here hx rfl (pc0 := 145) (pc' := 162) rfl (hb hby at_145) rfl (flt (by decide)).2.2.2 (by decide) (by decide) k) ?_
      show own_G _ _ _ _ _ _ _ (T85.setTop (mkF m 162 #[.val (.int p1), .val (.int p2), .val (.int p3), .val (.int p4), .val (.int (2 : Int32)), .val (.ref b1), .val (.int v6), .val (.ref b2), .val (.ref b1), .unset] []))
      refine own_st (fun t k => XS.aload X85.here hx rfl (hb hby at_162) rfl rfl k) ?_
      show own_G _ _ _ _ _ _ _ (T85.setTop (mkF m 164 #[.val (.int p1), .val (.int p2), .val (.int p3), .val (.int p4), .val (.int (2 : Int32)), .val (.ref b1), .val (.int v6), .val (.ref b2), .val (.ref b1), .unset] [(.ref b2)]))
      obtain ⟨cq87, kq87, q87a, q87b, q87c⟩ := isOf hZ e85 Ax82
      obtain ⟨_, _, ⟨T87, L87, k87, n87⟩, -, X87, ⟨Lc87, hQ87, l87, y87, z87⟩, st87⟩ := X85.virtualBack hx (y := (⟨"com/example/groveledger/groveledger/Lines$Line", "whole", "()[B"⟩ : MethodName)) (z := (⟨"com/example/groveledger/groveledger/Lines$Line", "whole", "()[B"⟩ : MethodName)) hown (mvT hZ (hw _ (List.mem_of_getElem? (i := 23) rfl))) (mvT hZ (hw _ (List.mem_of_getElem? (i := 24) rfl))) (notFace_of_selects (args := #[]) (mvT hZ (hw _ (List.mem_of_getElem? (i := 26) rfl)))) (mvT hZ (hw _ (List.mem_of_getElem? (i := 26) rfl))) (mvT hZ (hw _ (List.mem_of_getElem? (i := 25) rfl))) (by decide) (backOf (W := 0) (own_rm3 l Z a0 hw [] b2 b1 T82.heap n0 Zz84 Fl82 Ft82) hZ (hw _ (List.mem_of_getElem? (i := 27) rfl)) (hw _ (List.mem_of_getElem? (i := 3) rfl)) (by decide) (by decide)) q87a q87c (g := (mkF m 164 #[.val (.int p1), .val (.int p2), .val (.int p3), .val (.int p4), .val (.int (2 : Int32)), .val (.ref b1), .val (.int v6), .val (.ref b2), .val (.ref b1), .unset] [(.ref b2)])) rfl (by rw [hml]; rfl) (Steps.refl _) (argsL := []) (rest := []) (lenOf own_pd1 rfl) rfl (by show 2 * 0 + _ ≤ _; exact Nat.le_of_eq rfl) (hb hby at_164) (fun _ _ => ⟨rfl, e85, (by decide : 2 + 0 ≤ _), (by decide : 6 + 0 ≤ _)⟩)
      dsimp only [Pt.U, Pt.locs, Pt.cells, Pt.slots] at X87 l87 y87 z87 st87 hQ87
      subst l87 y87 z87
      obtain ⟨rfl, N87q, e87⟩ := hQ87
      have N87 := Fr.app N85 N87q
      refine own_st (fun t k => st87.trans k) ?_
      show own_G _ _ _ _ _ _ _ (T87.setTop (mkF m 167 #[.val (.int p1), .val (.int p2), .val (.int p3), .val (.int p4), .val (.int (2 : Int32)), .val (.ref b1), .val (.int v6), .val (.ref b2), .val (.ref b1), .unset] [(.ref b1)]))
      refine own_st (fun t k => XS.astore X87.here hx rfl (hb hby at_167) rfl rfl (l' := #[.val (.int p1), .val (.int p2), .val (.int p3), .val (.int p4), .val (.int (2 : Int32)), .val (.ref b1), .val (.int v6), .val (.ref b2), .val (.ref b1), .val (.ref b1)]) rfl k) ?_
      show own_G _ _ _ _ _ _ _ (T87.setTop (mkF m 169 #[.val (.int p1), .val (.int p2), .val (.int p3), .val (.int p4), .val (.int (2 : Int32)), .val (.ref b1), .val (.int v6), .val (.ref b2), .val (.ref b1), .val (.ref b1)] []))
      refine own_st (fun t k => XS.aload X87.here hx rfl (hb hby at_169) rfl rfl k) ?_
      show own_G _ _ _ _ _ _ _ (T87.setTop (mkF m 171 #[.val (.int p1), .val (.int p2), .val (.int p3), .val (.int p4), .val (.int (2 : Int32)), .val (.ref b1), .val (.int v6), .val (.ref b2), .val (.ref b1), .val (.ref b1)] [(.ref b1)]))
      refine own_st (fun t k => XS.aload X87.here hx rfl (hb hby at_171) rfl rfl k) ?_
      show own_G _ _ _ _ _ _ _ (T87.setTop (mkF m 173 #[.val (.int p1), .val (.int p2), .val (.int p3), .val (.int p4), .val (.int (2 : Int32)), .val (.ref b1), .val (.int v6), .val (.ref b2), .val (.ref b1), .val (.ref b1)] [(.ref b1), (.ref b1)]))
      refine own_st (fun t k => Jvm.RoadKit.acmp (g := (mkF m 173 #[.val (.int p1), .val (.int p2), .val (.int p3), .val (.int p4), .val (.int (2 : Int32)), .val (.ref b1), .val (.int v6), .val (.ref b2), .val (.ref b1), .val (.ref b1)] [(.ref b1), (.ref b1)])) X87 hx rfl rfl rfl (pc0 := 173) (pc' := 176) (same := true) rfl (hb hby at_173) rfl (decide_eq_true (congrArg Value.ref rfl)) (by decide) (by decide) k) ?_
      show own_G _ _ _ _ _ _ _ (T87.setTop (mkF m 176 #[.val (.int p1), .val (.int p2), .val (.int p3), .val (.int p4), .val (.int (2 : Int32)), .val (.ref b1), .val (.int v6), .val (.ref b2), .val (.ref b1), .val (.ref b1)] []))
      refine own_st (fun t k => XS.aload X87.here hx rfl (hb hby at_176) rfl rfl k) ?_
      show own_G _ _ _ _ _ _ _ (T87.setTop (mkF m 178 #[.val (.int p1), .val (.int p2), .val (.int p3), .val (.int p4), .val (.int (2 : Int32)), .val (.ref b1), .val (.int v6), .val (.ref b2), .val (.ref b1), .val (.ref b1)] [(.ref b2)]))
      obtain ⟨cq88, kq88, q88a, q88b, q88c⟩ := isOf hZ e87 Ax82
      obtain ⟨_, _, ⟨T88, L88, k88, n88⟩, -, X88, ⟨Lc88, hQ88, l88, y88, z88⟩, st88⟩ := X87.virtualBack hx (y := (⟨"com/example/groveledger/groveledger/Lines$Line", "number", "()I"⟩ : MethodName)) (z := (⟨"com/example/groveledger/groveledger/Lines$Line", "number", "()I"⟩ : MethodName)) hown (mvT hZ (hw _ (List.mem_of_getElem? (i := 28) rfl))) (mvT hZ (hw _ (List.mem_of_getElem? (i := 29) rfl))) (notFace_of_selects (args := #[]) (mvT hZ (hw _ (List.mem_of_getElem? (i := 31) rfl)))) (mvT hZ (hw _ (List.mem_of_getElem? (i := 31) rfl))) (mvT hZ (hw _ (List.mem_of_getElem? (i := 30) rfl))) (by decide) (backOf (W := 0) (own_rm4 l Z a0 hw [] b2 p1 T82.heap n0 Zz84 Fn82) hZ (hw _ (List.mem_of_getElem? (i := 32) rfl)) (hw _ (List.mem_of_getElem? (i := 3) rfl)) (by decide) (by decide)) q88a q88c (g := (mkF m 178 #[.val (.int p1), .val (.int p2), .val (.int p3), .val (.int p4), .val (.int (2 : Int32)), .val (.ref b1), .val (.int v6), .val (.ref b2), .val (.ref b1), .val (.ref b1)] [(.ref b2)])) rfl (by rw [hml]; rfl) (Steps.refl _) (argsL := []) (rest := []) (lenOf own_pd2 rfl) rfl (by show 2 * 0 + _ ≤ _; exact Nat.le_of_eq rfl) (hb hby at_178) (fun _ _ => ⟨rfl, e87, (by decide : 2 + 0 ≤ _), (by decide : 6 + 0 ≤ _)⟩)
      dsimp only [Pt.U, Pt.locs, Pt.cells, Pt.slots] at X88 l88 y88 z88 st88 hQ88
      subst l88 y88 z88
      obtain ⟨rfl, N88q, e88⟩ := hQ88
      have N88 := Fr.app N87 N88q
      refine own_st (fun t k => st88.trans k) ?_
      show own_G _ _ _ _ _ _ _ (T88.setTop (mkF m 181 #[.val (.int p1), .val (.int p2), .val (.int p3), .val (.int p4), .val (.int (2 : Int32)), .val (.ref b1), .val (.int v6), .val (.ref b2), .val (.ref b1), .val (.ref b1)] [(.int p1)]))
      refine own_st (fun t k => XS.iloadN X88.here hx rfl (hb hby at_181) rfl k) ?_
      show own_G _ _ _ _ _ _ _ (T88.setTop (mkF m 182 #[.val (.int p1), .val (.int p2), .val (.int p3), .val (.int p4), .val (.int (2 : Int32)), .val (.ref b1), .val (.int v6), .val (.ref b2), .val (.ref b1), .val (.ref b1)] [(.int p1), (.int p1)]))
      refine own_st (fun t k => XS.icmpNo X88.here hx rfl (hb hby at_182) rfl (teq rfl).2 k) ?_
      show own_G _ _ _ _ _ _ _ (T88.setTop (mkF m 185 #[.val (.int p1), .val (.int p2), .val (.int p3), .val (.int p4), .val (.int (2 : Int32)), .val (.ref b1), .val (.int v6), .val (.ref b2), .val (.ref b1), .val (.ref b1)] []))
      refine own_st (fun t k => XS.aload X88.here hx rfl (hb hby at_185) rfl rfl k) ?_
      show own_G _ _ _ _ _ _ _ (T88.setTop (mkF m 187 #[.val (.int p1), .val (.int p2), .val (.int p3), .val (.int p4), .val (.int (2 : Int32)), .val (.ref b1), .val (.int v6), .val (.ref b2), .val (.ref b1), .val (.ref b1)] [(.ref b2)]))
      obtain ⟨cq89, kq89, q89a, q89b, q89c⟩ := isOf hZ e88 Ax82
      obtain ⟨_, _, ⟨T89, L89, k89, n89⟩, -, X89, ⟨Lc89, hQ89, l89, y89, z89⟩, st89⟩ := X88.virtualBack hx (y := (⟨"com/example/groveledger/groveledger/Lines$Line", "ended", "()Z"⟩ : MethodName)) (z := (⟨"com/example/groveledger/groveledger/Lines$Line", "ended", "()Z"⟩ : MethodName)) hown (mvT hZ (hw _ (List.mem_of_getElem? (i := 33) rfl))) (mvT hZ (hw _ (List.mem_of_getElem? (i := 34) rfl))) (notFace_of_selects (args := #[]) (mvT hZ (hw _ (List.mem_of_getElem? (i := 36) rfl)))) (mvT hZ (hw _ (List.mem_of_getElem? (i := 36) rfl))) (mvT hZ (hw _ (List.mem_of_getElem? (i := 35) rfl))) (by decide) (backOf (W := 0) (own_rm5 l Z a0 hw [] b2 (nar .boolean v6) T82.heap n0 Zz84 Fe82) hZ (hw _ (List.mem_of_getElem? (i := 37) rfl)) (hw _ (List.mem_of_getElem? (i := 3) rfl)) (by decide) (by decide)) q89a q89c (g := (mkF m 187 #[.val (.int p1), .val (.int p2), .val (.int p3), .val (.int p4), .val (.int (2 : Int32)), .val (.ref b1), .val (.int v6), .val (.ref b2), .val (.ref b1), .val (.ref b1)] [(.ref b2)])) rfl (by rw [hml]; rfl) (Steps.refl _) (argsL := []) (rest := []) (lenOf own_pd3 rfl) rfl (by show 2 * 0 + _ ≤ _; exact Nat.le_of_eq rfl) (hb hby at_187) (fun _ _ => ⟨rfl, e88, (by decide : 2 + 0 ≤ _), (by decide : 6 + 0 ≤ _)⟩)
      dsimp only [Pt.U, Pt.locs, Pt.cells, Pt.slots] at X89 l89 y89 z89 st89 hQ89
      subst l89 y89 z89
      obtain ⟨rfl, N89q, e89⟩ := hQ89
      have N89 := Fr.app N88 N89q
      refine own_st (fun t k => st89.trans k) ?_
      show own_G _ _ _ _ _ _ _ (T89.setTop (mkF m 190 #[.val (.int p1), .val (.int p2), .val (.int p3), .val (.int p4), .val (.int (2 : Int32)), .val (.ref b1), .val (.int v6), .val (.ref b2), .val (.ref b1), .val (.ref b1)] [(.int (nar .boolean (nar .boolean v6)))]))
      refine own_st (fun t k => XS.iload X89.here hx rfl (hb hby at_190) rfl k) ?_
      show own_G _ _ _ _ _ _ _ (T89.setTop (mkF m 192 #[.val (.int p1), .val (.int p2), .val (.int p3), .val (.int p4), .val (.int (2 : Int32)), .val (.ref b1), .val (.int v6), .val (.ref b2), .val (.ref b1), .val (.ref b1)] [(.int v6), (.int (nar .boolean (nar .boolean v6)))]))
      refine own_st (fun t k => XS.icmpNo X89.here hx rfl (hb hby at_192) rfl (teq (own_nb hv6)).2 k) ?_
      show own_G _ _ _ _ _ _ _ (T89.setTop (mkF m 195 #[.val (.int p1), .val (.int p2), .val (.int p3), .val (.int p4), .val (.int (2 : Int32)), .val (.ref b1), .val (.int v6), .val (.ref b2), .val (.ref b1), .val (.ref b1)] []))
      refine own_st (fun t k => XS.aload X89.here hx rfl (hb hby at_195) rfl rfl k) ?_
      show own_G _ _ _ _ _ _ _ (T89.setTop (mkF m 197 #[.val (.int p1), .val (.int p2), .val (.int p3), .val (.int p4), .val (.int (2 : Int32)), .val (.ref b1), .val (.int v6), .val (.ref b2), .val (.ref b1), .val (.ref b1)] [(.ref b2)]))
      obtain ⟨cq90, kq90, q90a, q90b, q90c⟩ := isOf hZ e89 Ax82
      obtain ⟨_, _, ⟨T90, L90, k90, n90⟩, -, X90, ⟨Lc90, hQ90, l90, y90, z90⟩, st90⟩ := X89.virtualBack hx (y := (⟨"com/example/groveledger/groveledger/Lines$Line", "tooLong", "()Z"⟩ : MethodName)) (z := (⟨"com/example/groveledger/groveledger/Lines$Line", "tooLong", "()Z"⟩ : MethodName)) hown (mvT hZ (hw _ (List.mem_of_getElem? (i := 38) rfl))) (mvT hZ (hw _ (List.mem_of_getElem? (i := 39) rfl))) (notFace_of_selects (args := #[]) (mvT hZ (hw _ (List.mem_of_getElem? (i := 41) rfl)))) (mvT hZ (hw _ (List.mem_of_getElem? (i := 41) rfl))) (mvT hZ (hw _ (List.mem_of_getElem? (i := 40) rfl))) (by decide) (backOf (W := 0) (own_rm6 l Z a0 hw [] b2 0 T82.heap n0 Zz84 Fl82) hZ (hw _ (List.mem_of_getElem? (i := 42) rfl)) (hw _ (List.mem_of_getElem? (i := 3) rfl)) (by decide) (by decide)) q90a q90c (g := (mkF m 197 #[.val (.int p1), .val (.int p2), .val (.int p3), .val (.int p4), .val (.int (2 : Int32)), .val (.ref b1), .val (.int v6), .val (.ref b2), .val (.ref b1), .val (.ref b1)] [(.ref b2)])) rfl (by rw [hml]; rfl) (Steps.refl _) (argsL := []) (rest := []) (lenOf own_pd3 rfl) rfl (by show 2 * 0 + _ ≤ _; exact Nat.le_of_eq rfl) (hb hby at_197) (fun _ _ => ⟨rfl, e89, (by decide : 2 + 0 ≤ _), (by decide : 6 + 0 ≤ _)⟩)
      dsimp only [Pt.U, Pt.locs, Pt.cells, Pt.slots] at X90 l90 y90 z90 st90 hQ90
      subst l90 y90 z90
      obtain ⟨rfl, N90q, e90⟩ := hQ90
      have N90 := Fr.app N89 N90q
      refine own_st (fun t k => st90.trans k) ?_
      show own_G _ _ _ _ _ _ _ (T90.setTop (mkF m 200 #[.val (.int p1), .val (.int p2), .val (.int p3), .val (.int p4), .val (.int (2 : Int32)), .val (.ref b1), .val (.int v6), .val (.ref b2), .val (.ref b1), .val (.ref b1)] [(.int (nar .boolean (0 : Int32)))]))
      refine own_st (fun t k => XS.ifNo X90.here hx rfl (hb hby at_200) rfl ((if0 _ _).trans (teq own_z).2) k) ?_
      show own_G _ _ _ _ _ _ _ (T90.setTop (mkF m 203 #[.val (.int p1), .val (.int p2), .val (.int p3), .val (.int p4), .val (.int (2 : Int32)), .val (.ref b1), .val (.int v6), .val (.ref b2), .val (.ref b1), .val (.ref b1)] []))
      refine own_st (fun t k => XS.iconst X90.here hx rfl (hb hby at_203) k) ?_
      show own_G _ _ _ _ _ _ _ (T90.setTop (mkF m 204 #[.val (.int p1), .val (.int p2), .val (.int p3), .val (.int p4), .val (.int (2 : Int32)), .val (.ref b1), .val (.int v6), .val (.ref b2), .val (.ref b1), .val (.ref b1)] [(.int (1 : Int32))]))
      refine own_st (fun t k => XS.goto X90.here hx rfl (pc0 := 204) (pc' := 208) rfl (hb hby at_204) (by decide) (by decide) k) ?_
      show own_G _ _ _ _ _ _ _ (T90.setTop (mkF m 208 #[.val (.int p1), .val (.int p2), .val (.int p3), .val (.int p4), .val (.int (2 : Int32)), .val (.ref b1), .val (.int v6), .val (.ref b2), .val (.ref b1), .val (.ref b1)] [(.int (1 : Int32))]))
      exact own_retN (t := .boolean) (by simp) X90 hx Bd.returns (BodyLoose.notSynchronized Bd) (hb hby at_208) (by decide) (by decide) ⟨rfl, N90⟩
    by_cases h6 : (p4 &&& (1 : Int32)) = (0 : Int32)
    · refine own_st (fun t k => XS.ifYes X77.here hx rfl (pc0 := 55) (pc' := 62) rfl (hb hby at_55) rfl ((if0 _ _).trans (teq h6).1) (by decide) (by decide) k) ?_
      show own_G _ _ _ _ _ _ _ (T77.setTop (mkF m 62 #[.val (.int p1), .val (.int p2), .val (.int p3), .val (.int p4), .val (.int (2 : Int32)), .val (.ref b1), .unset, .unset, .unset, .unset] []))
      refine own_st (fun t k => XS.iconst X77.here hx rfl (hb hby at_62) k) ?_
      show own_G _ _ _ _ _ _ _ (T77.setTop (mkF m 63 #[.val (.int p1), .val (.int p2), .val (.int p3), .val (.int p4), .val (.int (2 : Int32)), .val (.ref b1), .unset, .unset, .unset, .unset] [(.int (0 : Int32))]))
      exact J _ (Or.inl rfl)
    · refine own_st (fun t k => XS.ifNo X77.here hx rfl (hb hby at_55) rfl ((if0 _ _).trans (feq h6).1) k) ?_
      show own_G _ _ _ _ _ _ _ (T77.setTop (mkF m 58 #[.val (.int p1), .val (.int p2), .val (.int p3), .val (.int p4), .val (.int (2 : Int32)), .val (.ref b1), .unset, .unset, .unset, .unset] []))
      refine own_st (fun t k => XS.iconst X77.here hx rfl (hb hby at_58) k) ?_
      show own_G _ _ _ _ _ _ _ (T77.setTop (mkF m 59 #[.val (.int p1), .val (.int p2), .val (.int p3), .val (.int p4), .val (.int (2 : Int32)), .val (.ref b1), .unset, .unset, .unset, .unset] [(.int (1 : Int32))]))
      refine own_st (fun t k => XS.goto X77.here hx rfl (pc0 := 59) (pc' := 63) rfl (hb hby at_59) (by decide) (by decide) k) ?_
      show own_G _ _ _ _ _ _ _ (T77.setTop (mkF m 63 #[.val (.int p1), .val (.int p2), .val (.int p3), .val (.int p4), .val (.int (2 : Int32)), .val (.ref b1), .unset, .unset, .unset, .unset] [(.int (1 : Int32))]))
      exact J _ (Or.inr rfl)
  · rw [hn]
    show own_G _ _ _ _ _ _ _ (s₁.setTop (mkF m 5 #[.val (.int p1), .val (.int p2), .val (.int p3), .val (.int p4), .val (.int (3 : Int32)), .unset, .unset, .unset, .unset, .unset] []))
    refine own_st (fun t k => XS.iload X0.here hx rfl (hb hby at_5) rfl k) ?_
    show own_G _ _ _ _ _ _ _ (s₁.setTop (mkF m 7 #[.val (.int p1), .val (.int p2), .val (.int p3), .val (.int p4), .val (.int (3 : Int32)), .unset, .unset, .unset, .unset, .unset] [(.int (3 : Int32))]))
    obtain ⟨T91, h91, k91, X91, e91, E91, A91, st91⟩ := newP X0 hx hZ (hw _ (List.mem_of_getElem? (i := 0) rfl)) e0 (g := (mkF m 7 #[.val (.int p1), .val (.int p2), .val (.int p3), .val (.int p4), .val (.int (3 : Int32)), .unset, .unset, .unset, .unset, .unset] [(.int (3 : Int32))])) rfl (hb hby at_7) rfl (by decide) (cap := 3) (by decide) (by decide) (by decide) (by decide)
    obtain ⟨b1, g91⟩ : ∃ z, z = h0.size := ⟨_, rfl⟩
    rw [← g91] at A91 st91
    refine own_st (fun t k => st91 t k) ?_
    show own_G _ _ _ _ _ _ _ (T91.setTop (mkF m 9 #[.val (.int p1), .val (.int p2), .val (.int p3), .val (.int p4), .val (.int (3 : Int32)), .unset, .unset, .unset, .unset, .unset] [(.ref b1)]))
    have ge_b1 : n0 ≤ b1 := Nat.le_trans Z0 (Nat.le_of_eq g91.symm)
    have Zz92 : n0 ≤ h91.size := Nat.le_trans Z0 E91.1
    have V_0 : Arv Z h91 b1 k91 .byte 3 [(.int 0), (.int 0), (.int 0)] (.int 0) := (Arv.new A91 (by decide)).pad (pad_rep [] (.int 0) 3)
    refine own_st (fun t k => XS.astore X91.here hx rfl (hb hby at_9) rfl rfl (l' := #[.val (.int p1), .val (.int p2), .val (.int p3), .val (.int p4), .val (.int (3 : Int32)), .val (.ref b1), .unset, .unset, .unset, .unset]) rfl k) ?_
    show own_G _ _ _ _ _ _ _ (T91.setTop (mkF m 11 #[.val (.int p1), .val (.int p2), .val (.int p3), .val (.int p4), .val (.int (3 : Int32)), .val (.ref b1), .unset, .unset, .unset, .unset] []))
    refine own_st (fun t k => XS.iload X91.here hx rfl (hb hby at_11) rfl k) ?_
    show own_G _ _ _ _ _ _ _ (T91.setTop (mkF m 13 #[.val (.int p1), .val (.int p2), .val (.int p3), .val (.int p4), .val (.int (3 : Int32)), .val (.ref b1), .unset, .unset, .unset, .unset] [(.int (3 : Int32))]))
    refine own_st (fun t k => XS.ifNo X91.here hx rfl (hb hby at_13) rfl ((if0 _ _).trans (tlt (by decide)).2.2.2) k) ?_
    show own_G _ _ _ _ _ _ _ (T91.setTop (mkF m 16 #[.val (.int p1), .val (.int p2), .val (.int p3), .val (.int p4), .val (.int (3 : Int32)), .val (.ref b1), .unset, .unset, .unset, .unset] []))
    refine own_st (fun t k => XS.aload X91.here hx rfl (hb hby at_16) rfl rfl k) ?_
    show own_G _ _ _ _ _ _ _ (T91.setTop (mkF m 18 #[.val (.int p1), .val (.int p2), .val (.int p3), .val (.int p4), .val (.int (3 : Int32)), .val (.ref b1), .unset, .unset, .unset, .unset] [(.ref b1)]))
    refine own_st (fun t k => XS.iconst X91.here hx rfl (hb hby at_18) k) ?_
    show own_G _ _ _ _ _ _ _ (T91.setTop (mkF m 19 #[.val (.int p1), .val (.int p2), .val (.int p3), .val (.int p4), .val (.int (3 : Int32)), .val (.ref b1), .unset, .unset, .unset, .unset] [(.int (0 : Int32)), (.ref b1)]))
    refine own_st (fun t k => XS.iloadN X91.here hx rfl (hb hby at_19) rfl k) ?_
    show own_G _ _ _ _ _ _ _ (T91.setTop (mkF m 20 #[.val (.int p1), .val (.int p2), .val (.int p3), .val (.int p4), .val (.int (3 : Int32)), .val (.ref b1), .unset, .unset, .unset, .unset] [(.int p2), (.int (0 : Int32)), (.ref b1)]))
    refine own_st (fun t k => XS.i2b X91.here hx rfl (hb hby at_20) rfl k) ?_
    show own_G _ _ _ _ _ _ _ (T91.setTop (mkF m 21 #[.val (.int p1), .val (.int p2), .val (.int p3), .val (.int p4), .val (.int (3 : Int32)), .val (.ref b1), .unset, .unset, .unset, .unset] [(.int (p2.toInt8.toInt32)), (.int (0 : Int32)), (.ref b1)]))
    obtain ⟨cl93, Ar93, q93, S93, M93, H93, G93⟩ := V_0
    have hin93 : ¬ ((0 : Int32) < 0 ∨ cl93.slots.size ≤ ((0 : Int32)).toNatClampNeg) := inb_of S93 ⟨by decide, by decide⟩
    obtain ⟨T94, h94, X94, e94, W94, st94⟩ := Jvm.RoadKit.stB X91 hx hZ e91 Ar93 (j := (0 : Int32)) hin93 (g := (mkF m 21 #[.val (.int p1), .val (.int p2), .val (.int p3), .val (.int p4), .val (.int (3 : Int32)), .val (.ref b1), .unset, .unset, .unset, .unset] [(.int (p2.toInt8.toInt32)), (.int (0 : Int32)), (.ref b1)])) rfl rfl (hb hby at_21)
    have N94 := Fr.snoc X94 N0 ge_b1
    refine own_st (fun t k => st94 t k) ?_
    show own_G _ _ _ _ _ _ _ (T94.setTop (mkF m 22 #[.val (.int p1), .val (.int p2), .val (.int p3), .val (.int p4), .val (.int (3 : Int32)), .val (.ref b1), .unset, .unset, .unset, .unset] []))
    have V_94 : Arv Z h94 b1 k91 .byte 3 [(.int (nar .byte (p2.toInt8.toInt32))), (.int 0), (.int 0)] (.int 0) := Arv.set Ar93 q93 S93 M93 H93 G93 (fits_nar_byte _) W94 0 rfl (Nat.le_of_ble_eq_true rfl)
    have Zz95 : n0 ≤ h94.size := Nat.le_trans Zz92 (Keep.of_wr W94).1
    refine own_st (fun t k => XS.iload X94.here hx rfl (hb hby at_22) rfl k) ?_
    show own_G _ _ _ _ _ _ _ (T94.setTop (mkF m 24 #[.val (.int p1), .val (.int p2), .val (.int p3), .val (.int p4), .val (.int (3 : Int32)), .val (.ref b1), .unset, .unset, .unset, .unset] [(.int (3 : Int32))]))
    refine own_st (fun t k => XS.iconst X94.here hx rfl (hb hby at_24) k) ?_
    show own_G _ _ _ _ _ _ _ (T94.setTop (mkF m 25 #[.val (.int p1), .val (.int p2), .val (.int p3), .val (.int p4), .val (.int (3 : Int32)), .val (.ref b1), .unset, .unset, .unset, .unset] [(.int (1 : Int32)), (.int (3 : Int32))]))
    refine own_st (fun t k => XS.icmpNo X94.here hx rfl (hb hby at_25) rfl (tlt (by decide)).2.2.2 k) ?_
    show own_G _ _ _ _ _ _ _ (T94.setTop (mkF m 28 #[.val (.int p1), .val (.int p2), .val (.int p3), .val (.int p4), .val (.int (3 : Int32)), .val (.ref b1), .unset, .unset, .unset, .unset] []))
    refine own_st (fun t k => XS.aload X94.here hx rfl (hb hby at_28) rfl rfl k) ?_
    show own_G _ _ _ _ _ _ _ (T94.setTop (mkF m 30 #[.val (.int p1), .val (.int p2), .val (.int p3), .val (.int p4), .val (.int (3 : Int32)), .val (.ref b1), .unset, .unset, .unset, .unset] [(.ref b1)]))
    refine own_st (fun t k => XS.iconst X94.here hx rfl (hb hby at_30) k) ?_
    show own_G _ _ _ _ _ _ _ (T94.setTop (mkF m 31 #[.val (.int p1), .val (.int p2), .val (.int p3), .val (.int p4), .val (.int (3 : Int32)), .val (.ref b1), .unset, .unset, .unset, .unset] [(.int (1 : Int32)), (.ref b1)]))
    refine own_st (fun t k => XS.iloadN X94.here hx rfl (hb hby at_31) rfl k) ?_
    show own_G _ _ _ _ _ _ _ (T94.setTop (mkF m 32 #[.val (.int p1), .val (.int p2), .val (.int p3), .val (.int p4), .val (.int (3 : Int32)), .val (.ref b1), .unset, .unset, .unset, .unset] [(.int p2), (.int (1 : Int32)), (.ref b1)]))
    refine own_st (fun t k => XS.bipush X94.here hx rfl (hb hby at_32) k) ?_
    show own_G _ _ _ _ _ _ _ (T94.setTop (mkF m 34 #[.val (.int p1), .val (.int p2), .val (.int p3), .val (.int p4), .val (.int (3 : Int32)), .val (.ref b1), .unset, .unset, .unset, .unset] [(.int (8 : Int32)), (.int p2), (.int (1 : Int32)), (.ref b1)]))
    refine own_st (fun t k => XS.ishr X94.here hx rfl (hb hby at_34) rfl k) ?_
    show own_G _ _ _ _ _ _ _ (T94.setTop (mkF m 35 #[.val (.int p1), .val (.int p2), .val (.int p3), .val (.int p4), .val (.int (3 : Int32)), .val (.ref b1), .unset, .unset, .unset, .unset] [(.int (p2 >>> ((8 : Int32) &&& 31))), (.int (1 : Int32)), (.ref b1)]))
    refine own_st (fun t k => XS.i2b X94.here hx rfl (hb hby at_35) rfl k) ?_
    show own_G _ _ _ _ _ _ _ (T94.setTop (mkF m 36 #[.val (.int p1), .val (.int p2), .val (.int p3), .val (.int p4), .val (.int (3 : Int32)), .val (.ref b1), .unset, .unset, .unset, .unset] [(.int ((p2 >>> ((8 : Int32) &&& 31)).toInt8.toInt32)), (.int (1 : Int32)), (.ref b1)]))
    obtain ⟨cl96, Ar96, q96, S96, M96, H96, G96⟩ := V_94
    have hin96 : ¬ ((1 : Int32) < 0 ∨ cl96.slots.size ≤ ((1 : Int32)).toNatClampNeg) := inb_of S96 ⟨by decide, by decide⟩
    obtain ⟨T97, h97, X97, e97, W97, st97⟩ := Jvm.RoadKit.stB X94 hx hZ e94 Ar96 (j := (1 : Int32)) hin96 (g := (mkF m 36 #[.val (.int p1), .val (.int p2), .val (.int p3), .val (.int p4), .val (.int (3 : Int32)), .val (.ref b1), .unset, .unset, .unset, .unset] [(.int ((p2 >>> ((8 : Int32) &&& 31)).toInt8.toInt32)), (.int (1 : Int32)), (.ref b1)])) rfl rfl (hb hby at_36)
    have N97 := Fr.snoc X97 N94 ge_b1
    refine own_st (fun t k => st97 t k) ?_
    show own_G _ _ _ _ _ _ _ (T97.setTop (mkF m 37 #[.val (.int p1), .val (.int p2), .val (.int p3), .val (.int p4), .val (.int (3 : Int32)), .val (.ref b1), .unset, .unset, .unset, .unset] []))
    have V_97 : Arv Z h97 b1 k91 .byte 3 [(.int (nar .byte (p2.toInt8.toInt32))), (.int (nar .byte ((p2 >>> ((8 : Int32) &&& 31)).toInt8.toInt32))), (.int 0)] (.int 0) := Arv.set Ar96 q96 S96 M96 H96 G96 (fits_nar_byte _) W97 1 rfl (Nat.le_of_ble_eq_true rfl)
    have Zz98 : n0 ≤ h97.size := Nat.le_trans Zz95 (Keep.of_wr W97).1
    refine own_st (fun t k => XS.iload X97.here hx rfl (hb hby at_37) rfl k) ?_
    show own_G _ _ _ _ _ _ _ (T97.setTop (mkF m 39 #[.val (.int p1), .val (.int p2), .val (.int p3), .val (.int p4), .val (.int (3 : Int32)), .val (.ref b1), .unset, .unset, .unset, .unset] [(.int (3 : Int32))]))
    refine own_st (fun t k => XS.iconst X97.here hx rfl (hb hby at_39) k) ?_
    show own_G _ _ _ _ _ _ _ (T97.setTop (mkF m 40 #[.val (.int p1), .val (.int p2), .val (.int p3), .val (.int p4), .val (.int (3 : Int32)), .val (.ref b1), .unset, .unset, .unset, .unset] [(.int (2 : Int32)), (.int (3 : Int32))]))
    refine own_st (fun t k => XS.icmpNo X97.here hx rfl (hb hby at_40) rfl (tlt (by decide)).2.2.2 k) ?_
    show own_G _ _ _ _ _ _ _ (T97.setTop (mkF m 43 #[.val (.int p1), .val (.int p2), .val (.int p3), .val (.int p4), .val (.int (3 : Int32)), .val (.ref b1), .unset, .unset, .unset, .unset] []))
    refine own_st (fun t k => XS.aload X97.here hx rfl (hb hby at_43) rfl rfl k) ?_
    show own_G _ _ _ _ _ _ _ (T97.setTop (mkF m 45 #[.val (.int p1), .val (.int p2), .val (.int p3), .val (.int p4), .val (.int (3 : Int32)), .val (.ref b1), .unset, .unset, .unset, .unset] [(.ref b1)]))
    refine own_st (fun t k => XS.iconst X97.here hx rfl (hb hby at_45) k) ?_
    show own_G _ _ _ _ _ _ _ (T97.setTop (mkF m 46 #[.val (.int p1), .val (.int p2), .val (.int p3), .val (.int p4), .val (.int (3 : Int32)), .val (.ref b1), .unset, .unset, .unset, .unset] [(.int (2 : Int32)), (.ref b1)]))
    refine own_st (fun t k => XS.iloadN X97.here hx rfl (hb hby at_46) rfl k) ?_
    show own_G _ _ _ _ _ _ _ (T97.setTop (mkF m 47 #[.val (.int p1), .val (.int p2), .val (.int p3), .val (.int p4), .val (.int (3 : Int32)), .val (.ref b1), .unset, .unset, .unset, .unset] [(.int p2), (.int (2 : Int32)), (.ref b1)]))
    refine own_st (fun t k => XS.bipush X97.here hx rfl (hb hby at_47) k) ?_
    show own_G _ _ _ _ _ _ _ (T97.setTop (mkF m 49 #[.val (.int p1), .val (.int p2), .val (.int p3), .val (.int p4), .val (.int (3 : Int32)), .val (.ref b1), .unset, .unset, .unset, .unset] [(.int (16 : Int32)), (.int p2), (.int (2 : Int32)), (.ref b1)]))
    refine own_st (fun t k => XS.ishr X97.here hx rfl (hb hby at_49) rfl k) ?_
    show own_G _ _ _ _ _ _ _ (T97.setTop (mkF m 50 #[.val (.int p1), .val (.int p2), .val (.int p3), .val (.int p4), .val (.int (3 : Int32)), .val (.ref b1), .unset, .unset, .unset, .unset] [(.int (p2 >>> ((16 : Int32) &&& 31))), (.int (2 : Int32)), (.ref b1)]))
    refine own_st (fun t k => XS.i2b X97.here hx rfl (hb hby at_50) rfl k) ?_
    show own_G _ _ _ _ _ _ _ (T97.setTop (mkF m 51 #[.val (.int p1), .val (.int p2), .val (.int p3), .val (.int p4), .val (.int (3 : Int32)), .val (.ref b1), .unset, .unset, .unset, .unset] [(.int ((p2 >>> ((16 : Int32) &&& 31)).toInt8.toInt32)), (.int (2 : Int32)), (.ref b1)]))
    obtain ⟨cl99, Ar99, q99, S99, M99, H99, G99⟩ := V_97
    have hin99 : ¬ ((2 : Int32) < 0 ∨ cl99.slots.size ≤ ((2 : Int32)).toNatClampNeg) := inb_of S99 ⟨by decide, by decide⟩
    obtain ⟨T100, h100, X100, e100, W100, st100⟩ := Jvm.RoadKit.stB X97 hx hZ e97 Ar99 (j := (2 : Int32)) hin99 (g := (mkF m 51 #[.val (.int p1), .val (.int p2), .val (.int p3), .val (.int p4), .val (.int (3 : Int32)), .val (.ref b1), .unset, .unset, .unset, .unset] [(.int ((p2 >>> ((16 : Int32) &&& 31)).toInt8.toInt32)), (.int (2 : Int32)), (.ref b1)])) rfl rfl (hb hby at_51)
    have N100 := Fr.snoc X100 N97 ge_b1
    refine own_st (fun t k => st100 t k) ?_
    show own_G _ _ _ _ _ _ _ (T100.setTop (mkF m 52 #[.val (.int p1), .val (.int p2), .val (.int p3), .val (.int p4), .val (.int (3 : Int32)), .val (.ref b1), .unset, .unset, .unset, .unset] []))
    have V_100 : Arv Z h100 b1 k91 .byte 3 [(.int (nar .byte (p2.toInt8.toInt32))), (.int (nar .byte ((p2 >>> ((8 : Int32) &&& 31)).toInt8.toInt32))), (.int (nar .byte ((p2 >>> ((16 : Int32) &&& 31)).toInt8.toInt32)))] (.int 0) := Arv.set Ar99 q99 S99 M99 H99 G99 (fits_nar_byte _) W100 2 rfl (Nat.le_of_ble_eq_true rfl)
    have Zz101 : n0 ≤ h100.size := Nat.le_trans Zz98 (Keep.of_wr W100).1
    refine own_st (fun t k => XS.iloadN X100.here hx rfl (hb hby at_52) rfl k) ?_
    show own_G _ _ _ _ _ _ _ (T100.setTop (mkF m 53 #[.val (.int p1), .val (.int p2), .val (.int p3), .val (.int p4), .val (.int (3 : Int32)), .val (.ref b1), .unset, .unset, .unset, .unset] [(.int p4)]))
    refine own_st (fun t k => XS.iconst X100.here hx rfl (hb hby at_53) k) ?_
    show own_G _ _ _ _ _ _ _ (T100.setTop (mkF m 54 #[.val (.int p1), .val (.int p2), .val (.int p3), .val (.int p4), .val (.int (3 : Int32)), .val (.ref b1), .unset, .unset, .unset, .unset] [(.int (1 : Int32)), (.int p4)]))
    refine own_st (fun t k => XS.iand X100.here hx rfl (hb hby at_54) rfl k) ?_
    show own_G _ _ _ _ _ _ _ (T100.setTop (mkF m 55 #[.val (.int p1), .val (.int p2), .val (.int p3), .val (.int p4), .val (.int (3 : Int32)), .val (.ref b1), .unset, .unset, .unset, .unset] [(.int (p4 &&& (1 : Int32)))]))
    have J : ∀ (v6 : Int32), (v6 = 0 ∨ v6 = 1) → own_G p.tables e below s (own_Q0 n0) room_1.cells room_1.slots (T100.setTop (mkF m 63 #[.val (.int p1), .val (.int p2), .val (.int p3), .val (.int p4), .val (.int (3 : Int32)), .val (.ref b1), .unset, .unset, .unset, .unset] [(.int v6)])) := by
      intro v6 hv6
      refine own_st (fun t k => XS.istore X100.here hx rfl (hb hby at_63) rfl (l' := #[.val (.int p1), .val (.int p2), .val (.int p3), .val (.int p4), .val (.int (3 : Int32)), .val (.ref b1), .val (.int v6), .unset, .unset, .unset]) rfl k) ?_
      show own_G _ _ _ _ _ _ _ (T100.setTop (mkF m 65 #[.val (.int p1), .val (.int p2), .val (.int p3), .val (.int p4), .val (.int (3 : Int32)), .val (.ref b1), .val (.int v6), .unset, .unset, .unset] []))
      obtain ⟨T102, h102, X102, e102, E102, A102, D102, -, st102⟩ := newO X100 hx hZ hown (hw _ (List.mem_of_getElem? (i := 1) rfl)) (hw _ (List.mem_of_getElem? (i := 2) rfl)) (hw _ (List.mem_of_getElem? (i := 3) rfl)) e100 (g := (mkF m 65 #[.val (.int p1), .val (.int p2), .val (.int p3), .val (.int p4), .val (.int (3 : Int32)), .val (.ref b1), .val (.int v6), .unset, .unset, .unset] [])) rfl (hb hby at_65) (by decide) (by decide)
      obtain ⟨b2, g102⟩ : ∃ z, z = h100.size := ⟨_, rfl⟩
      rw [← g102] at A102 D102 st102
      refine own_st (fun t k => st102 t k) ?_
      show own_G _ _ _ _ _ _ _ (T102.setTop (mkF m 68 #[.val (.int p1), .val (.int p2), .val (.int p3), .val (.int p4), .val (.int (3 : Int32)), .val (.ref b1), .val (.int v6), .unset, .unset, .unset] [(.ref b2)]))
      have ge_b2 : n0 ≤ b2 := Nat.le_trans Zz101 (Nat.le_of_eq g102.symm)
      have ne_b1_b2 : b1 ≠ b2 := Nat.ne_of_lt (Nat.lt_of_lt_of_le V_100.lt (Nat.le_of_eq g102.symm))
      have V_103 := V_100.ext E102
      have Zz104 : n0 ≤ h102.size := Nat.le_trans Zz101 E102.1
      have F_number : Fld Z h102 b2 "com/example/groveledger/groveledger/Lines$Line" "number" "I" (.int 0) := D102 (Or.inr (hw _ (List.mem_of_getElem? (i := 16) rfl))) (ty := .int) (by decide)
      have F_text : Fld Z h102 b2 "com/example/groveledger/groveledger/Lines$Line" "text" "[B" .null := D102 (Or.inr (hw _ (List.mem_of_getElem? (i := 18) rfl))) (ty := (.array .byte)) (by decide)
      have F_ended : Fld Z h102 b2 "com/example/groveledger/groveledger/Lines$Line" "ended" "Z" (.int 0) := D102 (Or.inr (hw _ (List.mem_of_getElem? (i := 20) rfl))) (ty := .boolean) (by decide)
      have F_tooLong : Fld Z h102 b2 "com/example/groveledger/groveledger/Lines$Line" "tooLong" "Z" (.int 0) := D102 (Or.inr (hw _ (List.mem_of_getElem? (i := 22) rfl))) (ty := .boolean) (by decide)
      refine own_st (fun t k => XS.dup X102.here hx rfl (hb hby at_68) rfl rfl k) ?_
      show own_G _ _ _ _ _ _ _ (T102.setTop (mkF m 69 #[.val (.int p1), .val (.int p2), .val (.int p3), .val (.int p4), .val (.int (3 : Int32)), .val (.ref b1), .val (.int v6), .unset, .unset, .unset] [(.ref b2), (.ref b2)]))
      refine own_st (fun t k => XS.iloadN X102.here hx rfl (hb hby at_69) rfl k) ?_
      show own_G _ _ _ _ _ _ _ (T102.setTop (mkF m 70 #[.val (.int p1), .val (.int p2), .val (.int p3), .val (.int p4), .val (.int (3 : Int32)), .val (.ref b1), .val (.int v6), .unset, .unset, .unset] [(.int p1), (.ref b2), (.ref b2)]))
      refine own_st (fun t k => XS.aload X102.here hx rfl (hb hby at_70) rfl rfl k) ?_
      show own_G _ _ _ _ _ _ _ (T102.setTop (mkF m 72 #[.val (.int p1), .val (.int p2), .val (.int p3), .val (.int p4), .val (.int (3 : Int32)), .val (.ref b1), .val (.int v6), .unset, .unset, .unset] [(.ref b1), (.int p1), (.ref b2), (.ref b2)]))
      refine own_st (fun t k => XS.iload X102.here hx rfl (hb hby at_72) rfl k) ?_
      show own_G _ _ _ _ _ _ _ (T102.setTop (mkF m 74 #[.val (.int p1), .val (.int p2), .val (.int p3), .val (.int p4), .val (.int (3 : Int32)), .val (.ref b1), .val (.int v6), .unset, .unset, .unset] [(.int v6), (.ref b1), (.int p1), (.ref b2), (.ref b2)]))
      refine own_st (fun t k => XS.iconst X102.here hx rfl (hb hby at_74) k) ?_
      show own_G _ _ _ _ _ _ _ (T102.setTop (mkF m 75 #[.val (.int p1), .val (.int p2), .val (.int p3), .val (.int p4), .val (.int (3 : Int32)), .val (.ref b1), .val (.int v6), .unset, .unset, .unset] [(.int (0 : Int32)), (.int v6), (.ref b1), (.int p1), (.ref b2), (.ref b2)]))
      obtain ⟨_, _, ⟨T105, L105, k105, n105⟩, -, X105, ⟨Lc105, hQ105, l105, y105, z105⟩, st105⟩ := X102.specialBack hx (y := (⟨"com/example/groveledger/groveledger/Lines$Line", "<init>", "(I[BZZ)V"⟩ : MethodName)) rfl hown (mvT hZ (hw _ (List.mem_of_getElem? (i := 4) rfl))) (mvT hZ (hw _ (List.mem_of_getElem? (i := 5) rfl))) (mvT hZ (hw _ (List.mem_of_getElem? (i := 6) rfl))) (by decide) (backOf (W := 1) (own_rm1 l Z a0 hw [] b2 p1 b1 v6 0 h102 n0 Zz104 A102 F_number F_text F_ended F_tooLong ge_b2) hZ (hw _ (List.mem_of_getElem? (i := 6) rfl)) (hw _ (List.mem_of_getElem? (i := 3) rfl)) (by decide) (by decide)) (g := (mkF m 75 #[.val (.int p1), .val (.int p2), .val (.int p3), .val (.int p4), .val (.int (3 : Int32)), .val (.ref b1), .val (.int v6), .unset, .unset, .unset] [(.int (0 : Int32)), (.int v6), (.ref b1), (.int p1), (.ref b2), (.ref b2)])) rfl (by rw [hml]; rfl) (Steps.refl _) (a := b2) (argsL := [(.int p1), (.ref b1), (.int v6), (.int (0 : Int32))]) (rest := [(.ref b2)]) (lenOf own_pd0 rfl) rfl (by show 2 * 0 + _ ≤ _; exact Nat.le_of_eq rfl) (hb hby at_75) (fun _ _ => ⟨rfl, e102, (by decide : 2 + 0 ≤ _), (by decide : 7 + 0 ≤ _)⟩)
      dsimp only [Pt.U, Pt.locs, Pt.cells, Pt.slots] at X105 l105 y105 z105 st105 hQ105
      subst l105 y105 z105
      obtain ⟨rfl, N105q, K105, Ax105, Fn105, Ft105, Fe105, Fl105⟩ := hQ105
      have N105 := Fr.app N100 N105q
      refine own_st (fun t k => st105.trans k) ?_
      show own_G _ _ _ _ _ _ _ (T105.setTop (mkF m 78 #[.val (.int p1), .val (.int p2), .val (.int p3), .val (.int p4), .val (.int (3 : Int32)), .val (.ref b1), .val (.int v6), .unset, .unset, .unset] [(.ref b2)]))
      have V_106 := V_103.keep K105 (ninS ne_b1_b2 nin0)
      have Zz107 : n0 ≤ _ := Nat.le_trans Zz104 K105.1
      rw [own_z] at Fl105
      refine own_st (fun t k => XS.astore X105.here hx rfl (hb hby at_78) rfl rfl (l' := #[.val (.int p1), .val (.int p2), .val (.int p3), .val (.int p4), .val (.int (3 : Int32)), .val (.ref b1), .val (.int v6), .val (.ref b2), .unset, .unset]) rfl k) ?_
      show own_G _ _ _ _ _ _ _ (T105.setTop (mkF m 80 #[.val (.int p1), .val (.int p2), .val (.int p3), .val (.int p4), .val (.int (3 : Int32)), .val (.ref b1), .val (.int v6), .val (.ref b2), .unset, .unset] []))
      refine own_st (fun t k => XS.aload X105.here hx rfl (hb hby at_80) rfl rfl k) ?_
      show own_G _ _ _ _ _ _ _ (T105.setTop (mkF m 82 #[.val (.int p1), .val (.int p2), .val (.int p3), .val (.int p4), .val (.int (3 : Int32)), .val (.ref b1), .val (.int v6), .val (.ref b2), .unset, .unset] [(.ref b2)]))
      obtain ⟨cq108, kq108, q108a, q108b, q108c⟩ := isOf hZ rfl Ax105
      obtain ⟨_, _, ⟨T108, L108, k108, n108⟩, -, X108, ⟨Lc108, hQ108, l108, y108, z108⟩, st108⟩ := X105.virtualBack hx (y := (⟨"com/example/groveledger/groveledger/Lines$Line", "whole", "()[B"⟩ : MethodName)) (z := (⟨"com/example/groveledger/groveledger/Lines$Line", "whole", "()[B"⟩ : MethodName)) hown (mvT hZ (hw _ (List.mem_of_getElem? (i := 23) rfl))) (mvT hZ (hw _ (List.mem_of_getElem? (i := 24) rfl))) (notFace_of_selects (args := #[]) (mvT hZ (hw _ (List.mem_of_getElem? (i := 26) rfl)))) (mvT hZ (hw _ (List.mem_of_getElem? (i := 26) rfl))) (mvT hZ (hw _ (List.mem_of_getElem? (i := 25) rfl))) (by decide) (backOf (W := 0) (own_rm3 l Z a0 hw [] b2 b1 T105.heap n0 Zz107 Fl105 Ft105) hZ (hw _ (List.mem_of_getElem? (i := 27) rfl)) (hw _ (List.mem_of_getElem? (i := 3) rfl)) (by decide) (by decide)) q108a q108c (g := (mkF m 82 #[.val (.int p1), .val (.int p2), .val (.int p3), .val (.int p4), .val (.int (3 : Int32)), .val (.ref b1), .val (.int v6), .val (.ref b2), .unset, .unset] [(.ref b2)])) rfl (by rw [hml]; rfl) (Steps.refl _) (argsL := []) (rest := []) (lenOf own_pd1 rfl) rfl (by show 2 * 0 + _ ≤ _; exact Nat.le_of_eq rfl) (hb hby at_82) (fun _ _ => ⟨rfl, rfl, (by decide : 2 + 0 ≤ _), (by decide : 7 + 0 ≤ _)⟩)
      dsimp only [Pt.U, Pt.locs, Pt.cells, Pt.slots] at X108 l108 y108 z108 st108 hQ108
      subst l108 y108 z108
      obtain ⟨rfl, N108q, e108⟩ := hQ108
      have N108 := Fr.app N105 N108q
      refine own_st (fun t k => st108.trans k) ?_
      show own_G _ _ _ _ _ _ _ (T108.setTop (mkF m 85 #[.val (.int p1), .val (.int p2), .val (.int p3), .val (.int p4), .val (.int (3 : Int32)), .val (.ref b1), .val (.int v6), .val (.ref b2), .unset, .unset] [(.ref b1)]))
      refine own_st (fun t k => XS.astore X108.here hx rfl (hb hby at_85) rfl rfl (l' := #[.val (.int p1), .val (.int p2), .val (.int p3), .val (.int p4), .val (.int (3 : Int32)), .val (.ref b1), .val (.int v6), .val (.ref b2), .val (.ref b1), .unset]) rfl k) ?_
      show own_G _ _ _ _ _ _ _ (T108.setTop (mkF m 87 #[.val (.int p1), .val (.int p2), .val (.int p3), .val (.int p4), .val (.int (3 : Int32)), .val (.ref b1), .val (.int v6), .val (.ref b2), .val (.ref b1), .unset] []))
      refine own_st (fun t k => XS.aload X108.here hx rfl (hb hby at_87) rfl rfl k) ?_
      show own_G _ _ _ _ _ _ _ (T108.setTop (mkF m 89 #[.val (.int p1), .val (.int p2), .val (.int p3), .val (.int p4), .val (.int (3 : Int32)), .val (.ref b1), .val (.int v6), .val (.ref b2), .val (.ref b1), .unset] [(.ref b1)]))
      refine own_st (fun t k => XS.aload X108.here hx rfl (hb hby at_89) rfl rfl k) ?_
      show own_G _ _ _ _ _ _ _ (T108.setTop (mkF m 91 #[.val (.int p1), .val (.int p2), .val (.int p3), .val (.int p4), .val (.int (3 : Int32)), .val (.ref b1), .val (.int v6), .val (.ref b2), .val (.ref b1), .unset] [(.ref b1), (.ref b1)]))
      refine own_st (fun t k => Jvm.RoadKit.acmp (g := (mkF m 91 #[.val (.int p1), .val (.int p2), .val (.int p3), .val (.int p4), .val (.int (3 : Int32)), .val (.ref b1), .val (.int v6), .val (.ref b2), .val (.ref b1), .unset] [(.ref b1), (.ref b1)])) X108 hx rfl rfl rfl (pc0 := 91) (pc' := 96) (same := true) rfl (hb hby at_91) rfl (decide_eq_true (congrArg Value.ref rfl)) (by decide) (by decide) k) ?_
      show own_G _ _ _ _ _ _ _ (T108.setTop (mkF m 96 #[.val (.int p1), .val (.int p2), .val (.int p3), .val (.int p4), .val (.int (3 : Int32)), .val (.ref b1), .val (.int v6), .val (.ref b2), .val (.ref b1), .unset] []))
      refine own_st (fun t k => XS.aload X108.here hx rfl (hb hby at_96) rfl rfl k) ?_
      show own_G _ _ _ _ _ _ _ (T108.setTop (mkF m 98 #[.val (.int p1), .val (.int p2), .val (.int p3), .val (.int p4), .val (.int (3 : Int32)), .val (.ref b1), .val (.int v6), .val (.ref b2), .val (.ref b1), .unset] [(.ref b1)]))
      obtain ⟨cl109, Ar109, q109, S109, M109, H109, G109⟩ := V_106
      refine own_st (fun t k => X108.arraylength hx (by rw [e108]; exact Ar109.1) (State.isArrayOf_alike hZ.alike Ar109.2.1) (g := (mkF m 98 #[.val (.int p1), .val (.int p2), .val (.int p3), .val (.int p4), .val (.int (3 : Int32)), .val (.ref b1), .val (.int v6), .val (.ref b2), .val (.ref b1), .unset] [(.ref b1)])) rfl rfl (hb hby at_98) t k) ?_
      rw [len_of S109 M109]
      show own_G _ _ _ _ _ _ _ (T108.setTop (mkF m 99 #[.val (.int p1), .val (.int p2), .val (.int p3), .val (.int p4), .val (.int (3 : Int32)), .val (.ref b1), .val (.int v6), .val (.ref b2), .val (.ref b1), .unset] [(.int 3)]))
      refine own_st (fun t k => XS.iload X108.here hx rfl (hb hby at_99) rfl k) ?_
      show own_G _ _ _ _ _ _ _ (T108.setTop (mkF m 101 #[.val (.int p1), .val (.int p2), .val (.int p3), .val (.int p4), .val (.int (3 : Int32)), .val (.ref b1), .val (.int v6), .val (.ref b2), .val (.ref b1), .unset] [(.int (3 : Int32)), (.int (3 : Int32))]))
      refine own_st (fun t k => XS.icmpYes X108.here hx rfl (pc0 := 101) (pc' := 106) rfl (hb hby at_101) rfl (teq rfl).1 (by decide) (by decide) k) ?_
      show own_G _ _ _ _ _ _ _ (T108.setTop (mkF m 106 #[.val (.int p1), .val (.int p2), .val (.int p3), .val (.int p4), .val (.int (3 : Int32)), .val (.ref b1), .val (.int v6), .val (.ref b2), .val (.ref b1), .unset] []))
      refine own_st (fun t k => XS.iload X108.here hx rfl (hb hby at_106) rfl k) ?_
      show own_G _ _ _ _ _ _ _ (T108.setTop (mkF m 108 #[.val (.int p1), .val (.int p2), .val (.int p3), .val (.int p4), .val (.int (3 : Int32)), .val (.ref b1), .val (.int v6), .val (.ref b2), .val (.ref b1), .unset] [(.int (3 : Int32))]))
      refine own_st (fun t k => XS.ifNo X108.here hx rfl (hb hby at_108) rfl ((if0 _ _).trans (tlt (by decide)).2.2.2) k) ?_
      show own_G _ _ _ _ _ _ _ (T108.setTop (mkF m 111 #[.val (.int p1), .val (.int p2), .val (.int p3), .val (.int p4), .val (.int (3 : Int32)), .val (.ref b1), .val (.int v6), .val (.ref b2), .val (.ref b1), .unset] []))
      refine own_st (fun t k => XS.aload X108.here hx rfl (hb hby at_111) rfl rfl k) ?_
      show own_G _ _ _ _ _ _ _ (T108.setTop (mkF m 113 #[.val (.int p1), .val (.int p2), .val (.int p3), .val (.int p4), .val (.int (3 : Int32)), .val (.ref b1), .val (.int v6), .val (.ref b2), .val (.ref b1), .unset] [(.ref b1)]))
      refine own_st (fun t k => XS.iconst X108.here hx rfl (hb hby at_113) k) ?_
      show own_G _ _ _ _ _ _ _ (T108.setTop (mkF m 114 #[.val (.int p1), .val (.int p2), .val (.int p3), .val (.int p4), .val (.int (3 : Int32)), .val (.ref b1), .val (.int v6), .val (.ref b2), .val (.ref b1), .unset] [(.int (0 : Int32)), (.ref b1)]))
      have hin0 : ¬ ((0 : Int32) < 0 ∨ cl109.slots.size ≤ ((0 : Int32)).toNatClampNeg) := inb_of S109 ⟨by decide, by decide⟩
      have hat0 : cl109.slots[((0 : Int32)).toNatClampNeg]? = some (.int (nar .byte (p2.toInt8.toInt32))) := Has.at H109 hin0 rfl
      refine own_st (fun t k => X108.baloadBytes hx (j := (0 : Int32)) (v := (.int (nar .byte (p2.toInt8.toInt32)))) (by rw [e108]; exact Ar109.1) (State.isArrayOf_alike hZ.alike Ar109.2.1) Ar109.2.2 hin0 hat0 (g := (mkF m 114 #[.val (.int p1), .val (.int p2), .val (.int p3), .val (.int p4), .val (.int (3 : Int32)), .val (.ref b1), .val (.int v6), .val (.ref b2), .val (.ref b1), .unset] [(.int (0 : Int32)), (.ref b1)])) rfl rfl (hb hby at_114) t k) ?_
      show own_G _ _ _ _ _ _ _ (T108.setTop (mkF m 115 #[.val (.int p1), .val (.int p2), .val (.int p3), .val (.int p4), .val (.int (3 : Int32)), .val (.ref b1), .val (.int v6), .val (.ref b2), .val (.ref b1), .unset] [(.int (nar .byte (p2.toInt8.toInt32)))]))
      refine own_st (fun t k => XS.iloadN X108.here hx rfl (hb hby at_115) rfl k) ?_
      show own_G _ _ _ _ _ _ _ (T108.setTop (mkF m 116 #[.val (.int p1), .val (.int p2), .val (.int p3), .val (.int p4), .val (.int (3 : Int32)), .val (.ref b1), .val (.int v6), .val (.ref b2), .val (.ref b1), .unset] [(.int p2), (.int (nar .byte (p2.toInt8.toInt32)))]))
      refine own_st (fun t k => XS.i2b X108.here hx rfl (hb hby at_116) rfl k) ?_
      show own_G _ _ _ _ _ _ _ (T108.setTop (mkF m 117 #[.val (.int p1), .val (.int p2), .val (.int p3), .val (.int p4), .val (.int (3 : Int32)), .val (.ref b1), .val (.int v6), .val (.ref b2), .val (.ref b1), .unset] [(.int (p2.toInt8.toInt32)), (.int (nar .byte (p2.toInt8.toInt32)))]))
      refine own_st (fun t k => XS.icmpYes X108.here hx rfl (pc0 := 117) (pc' := 122) rfl (hb hby at_117) rfl (teq (own_bb _)).1 (by decide) (by decide) k) ?_
      show own_G _ _ _ _ _ _ _ (T108.setTop (mkF m 122 #[.val (.int p1), .val (.int p2), .val (.int p3), .val (.int p4), .val (.int (3 : Int32)), .val (.ref b1), .val (.int v6), .val (.ref b2), .val (.ref b1), .unset] []))
      refine own_st (fun t k => XS.iload X108.here hx rfl (hb hby at_122) rfl k) ?_
      show own_G _ _ _ _ _ _ _ (T108.setTop (mkF m 124 #[.val (.int p1), .val (.int p2), .val (.int p3), .val (.int p4), .val (.int (3 : Int32)), .val (.ref b1), .val (.int v6), .val (.ref b2), .val (.ref b1), .unset] [(.int (3 : Int32))]))
      refine own_st (fun t k => XS.iconst X108.here hx rfl (hb hby at_124) k) ?_
      show own_G _ _ _ _ _ _ _ (T108.setTop (mkF m 125 #[.val (.int p1), .val (.int p2), .val (.int p3), .val (.int p4), .val (.int (3 : Int32)), .val (.ref b1), .val (.int v6), .val (.ref b2), .val (.ref b1), .unset] [(.int (1 : Int32)), (.int (3 : Int32))]))
      refine own_st (fun t k => XS.icmpNo X108.here hx rfl (hb hby at_125) rfl (tlt (by decide)).2.2.2 k) ?_
      show own_G _ _ _ _ _ _ _ (T108.setTop (mkF m 128 #[.val (.int p1), .val (.int p2), .val (.int p3), .val (.int p4), .val (.int (3 : Int32)), .val (.ref b1), .val (.int v6), .val (.ref b2), .val (.ref b1), .unset] []))
      refine own_st (fun t k => XS.aload X108.here hx rfl (hb hby at_128) rfl rfl k) ?_
      show own_G _ _ _ _ _ _ _ (T108.setTop (mkF m 130 #[.val (.int p1), .val (.int p2), .val (.int p3), .val (.int p4), .val (.int (3 : Int32)), .val (.ref b1), .val (.int v6), .val (.ref b2), .val (.ref b1), .unset] [(.ref b1)]))
      refine own_st (fun t k => XS.iconst X108.here hx rfl (hb hby at_130) k) ?_
      show own_G _ _ _ _ _ _ _ (T108.setTop (mkF m 131 #[.val (.int p1), .val (.int p2), .val (.int p3), .val (.int p4), .val (.int (3 : Int32)), .val (.ref b1), .val (.int v6), .val (.ref b2), .val (.ref b1), .unset] [(.int (1 : Int32)), (.ref b1)]))
      have hin1 : ¬ ((1 : Int32) < 0 ∨ cl109.slots.size ≤ ((1 : Int32)).toNatClampNeg) := inb_of S109 ⟨by decide, by decide⟩
      have hat1 : cl109.slots[((1 : Int32)).toNatClampNeg]? = some (.int (nar .byte ((p2 >>> ((8 : Int32) &&& 31)).toInt8.toInt32))) := Has.at H109 hin1 rfl
      refine own_st (fun t k => X108.baloadBytes hx (j := (1 : Int32)) (v := (.int (nar .byte ((p2 >>> ((8 : Int32) &&& 31)).toInt8.toInt32)))) (by rw [e108]; exact Ar109.1) (State.isArrayOf_alike hZ.alike Ar109.2.1) Ar109.2.2 hin1 hat1 (g := (mkF m 131 #[.val (.int p1), .val (.int p2), .val (.int p3), .val (.int p4), .val (.int (3 : Int32)), .val (.ref b1), .val (.int v6), .val (.ref b2), .val (.ref b1), .unset] [(.int (1 : Int32)), (.ref b1)])) rfl rfl (hb hby at_131) t k) ?_
      show own_G _ _ _ _ _ _ _ (T108.setTop (mkF m 132 #[.val (.int p1), .val (.int p2), .val (.int p3), .val (.int p4), .val (.int (3 : Int32)), .val (.ref b1), .val (.int v6), .val (.ref b2), .val (.ref b1), .unset] [(.int (nar .byte ((p2 >>> ((8 : Int32) &&& 31)).toInt8.toInt32)))]))
      refine own_st (fun t k => XS.iloadN X108.here hx rfl (hb hby at_132) rfl k) ?_
      show own_G _ _ _ _ _ _ _ (T108.setTop (mkF m 133 #[.val (.int p1), .val (.int p2), .val (.int p3), .val (.int p4), .val (.int (3 : Int32)), .val (.ref b1), .val (.int v6), .val (.ref b2), .val (.ref b1), .unset] [(.int p2), (.int (nar .byte ((p2 >>> ((8 : Int32) &&& 31)).toInt8.toInt32)))]))
      refine own_st (fun t k => XS.bipush X108.here hx rfl (hb hby at_133) k) ?_
      show own_G _ _ _ _ _ _ _ (T108.setTop (mkF m 135 #[.val (.int p1), .val (.int p2), .val (.int p3), .val (.int p4), .val (.int (3 : Int32)), .val (.ref b1), .val (.int v6), .val (.ref b2), .val (.ref b1), .unset] [(.int (8 : Int32)), (.int p2), (.int (nar .byte ((p2 >>> ((8 : Int32) &&& 31)).toInt8.toInt32)))]))
      refine own_st (fun t k => XS.ishr X108.here hx rfl (hb hby at_135) rfl k) ?_
      show own_G _ _ _ _ _ _ _ (T108.setTop (mkF m 136 #[.val (.int p1), .val (.int p2), .val (.int p3), .val (.int p4), .val (.int (3 : Int32)), .val (.ref b1), .val (.int v6), .val (.ref b2), .val (.ref b1), .unset] [(.int (p2 >>> ((8 : Int32) &&& 31))), (.int (nar .byte ((p2 >>> ((8 : Int32) &&& 31)).toInt8.toInt32)))]))
      refine own_st (fun t k => XS.i2b X108.here hx rfl (hb hby at_136) rfl k) ?_
      show own_G _ _ _ _ _ _ _ (T108.setTop (mkF m 137 #[.val (.int p1), .val (.int p2), .val (.int p3), .val (.int p4), .val (.int (3 : Int32)), .val (.ref b1), .val (.int v6), .val (.ref b2), .val (.ref b1), .unset] [(.int ((p2 >>> ((8 : Int32) &&& 31)).toInt8.toInt32)), (.int (nar .byte ((p2 >>> ((8 : Int32) &&& 31)).toInt8.toInt32)))]))
      refine own_st (fun t k => XS.icmpYes X108.here hx rfl (pc0 := 137) (pc' := 142) rfl (hb hby at_137) rfl (teq (own_bb _)).1 (by decide) (by decide) k) ?_
      show own_G _ _ _ _ _ _ _ (T108.setTop (mkF m 142 #[.val (.int p1), .val (.int p2), .val (.int p3), .val (.int p4), .val (.int (3 : Int32)), .val (.ref b1), .val (.int v6), .val (.ref b2), .val (.ref b1), .unset] []))
      refine own_st (fun t k => XS.iload X108.here hx rfl (hb hby at_142) rfl k) ?_
      show own_G _ _ _ _ _ _ _ (T108.setTop (mkF m 144 #[.val (.int p1), .val (.int p2), .val (.int p3), .val (.int p4), .val (.int (3 : Int32)), .val (.ref b1), .val (.int v6), .val (.ref b2), .val (.ref b1), .unset] [(.int (3 : Int32))]))
      refine own_st (fun t k => XS.iconst X108.here hx rfl (hb hby at_144) k) ?_
      show own_G _ _ _ _ _ _ _ (T108.setTop (mkF m 145 #[.val (.int p1), .val (.int p2), .val (.int p3), .val (.int p4), .val (.int (3 : Int32)), .val (.ref b1), .val (.int v6), .val (.ref b2), .val (.ref b1), .unset] [(.int (2 : Int32)), (.int (3 : Int32))]))
      refine own_st (fun t k => XS.icmpNo X108.here hx rfl (hb hby at_145) rfl (tlt (by decide)).2.2.2 k) ?_
      show own_G _ _ _ _ _ _ _ (T108.setTop (mkF m 148 #[.val (.int p1), .val (.int p2), .val (.int p3), .val (.int p4), .val (.int (3 : Int32)), .val (.ref b1), .val (.int v6), .val (.ref b2), .val (.ref b1), .unset] []))
      refine own_st (fun t k => XS.aload X108.here hx rfl (hb hby at_148) rfl rfl k) ?_
      show own_G _ _ _ _ _ _ _ (T108.setTop (mkF m 150 #[.val (.int p1), .val (.int p2), .val (.int p3), .val (.int p4), .val (.int (3 : Int32)), .val (.ref b1), .val (.int v6), .val (.ref b2), .val (.ref b1), .unset] [(.ref b1)]))
      refine own_st (fun t k => XS.iconst X108.here hx rfl (hb hby at_150) k) ?_
      show own_G _ _ _ _ _ _ _ (T108.setTop (mkF m 151 #[.val (.int p1), .val (.int p2), .val (.int p3), .val (.int p4), .val (.int (3 : Int32)), .val (.ref b1), .val (.int v6), .val (.ref b2), .val (.ref b1), .unset] [(.int (2 : Int32)), (.ref b1)]))
      have hin2 : ¬ ((2 : Int32) < 0 ∨ cl109.slots.size ≤ ((2 : Int32)).toNatClampNeg) := inb_of S109 ⟨by decide, by decide⟩
      have hat2 : cl109.slots[((2 : Int32)).toNatClampNeg]? = some (.int (nar .byte ((p2 >>> ((16 : Int32) &&& 31)).toInt8.toInt32))) := Has.at H109 hin2 rfl
      refine own_st (fun t k => X108.baloadBytes hx (j := (2 : Int32)) (v := (.int (nar .byte ((p2 >>> ((16 : Int32) &&& 31)).toInt8.toInt32)))) (by rw [e108]; exact Ar109.1) (State.isArrayOf_alike hZ.alike Ar109.2.1) Ar109.2.2 hin2 hat2 (g := (mkF m 151 #[.val (.int p1), .val (.int p2), .val (.int p3), .val (.int p4), .val (.int (3 : Int32)), .val (.ref b1), .val (.int v6), .val (.ref b2), .val (.ref b1), .unset] [(.int (2 : Int32)), (.ref b1)])) rfl rfl (hb hby at_151) t k) ?_
      show own_G _ _ _ _ _ _ _ (T108.setTop (mkF m 152 #[.val (.int p1), .val (.int p2), .val (.int p3), .val (.int p4), .val (.int (3 : Int32)), .val (.ref b1), .val (.int v6), .val (.ref b2), .val (.ref b1), .unset] [(.int (nar .byte ((p2 >>> ((16 : Int32) &&& 31)).toInt8.toInt32)))]))
      refine own_st (fun t k => XS.iloadN X108.here hx rfl (hb hby at_152) rfl k) ?_
      show own_G _ _ _ _ _ _ _ (T108.setTop (mkF m 153 #[.val (.int p1), .val (.int p2), .val (.int p3), .val (.int p4), .val (.int (3 : Int32)), .val (.ref b1), .val (.int v6), .val (.ref b2), .val (.ref b1), .unset] [(.int p2), (.int (nar .byte ((p2 >>> ((16 : Int32) &&& 31)).toInt8.toInt32)))]))
      refine own_st (fun t k => XS.bipush X108.here hx rfl (hb hby at_153) k) ?_
      show own_G _ _ _ _ _ _ _ (T108.setTop (mkF m 155 #[.val (.int p1), .val (.int p2), .val (.int p3), .val (.int p4), .val (.int (3 : Int32)), .val (.ref b1), .val (.int v6), .val (.ref b2), .val (.ref b1), .unset] [(.int (16 : Int32)), (.int p2), (.int (nar .byte ((p2 >>> ((16 : Int32) &&& 31)).toInt8.toInt32)))]))
      refine own_st (fun t k => XS.ishr X108.here hx rfl (hb hby at_155) rfl k) ?_
      show own_G _ _ _ _ _ _ _ (T108.setTop (mkF m 156 #[.val (.int p1), .val (.int p2), .val (.int p3), .val (.int p4), .val (.int (3 : Int32)), .val (.ref b1), .val (.int v6), .val (.ref b2), .val (.ref b1), .unset] [(.int (p2 >>> ((16 : Int32) &&& 31))), (.int (nar .byte ((p2 >>> ((16 : Int32) &&& 31)).toInt8.toInt32)))]))
      refine own_st (fun t k => XS.i2b X108.here hx rfl (hb hby at_156) rfl k) ?_
      show own_G _ _ _ _ _ _ _ (T108.setTop (mkF m 157 #[.val (.int p1), .val (.int p2), .val (.int p3), .val (.int p4), .val (.int (3 : Int32)), .val (.ref b1), .val (.int v6), .val (.ref b2), .val (.ref b1), .unset] [(.int ((p2 >>> ((16 : Int32) &&& 31)).toInt8.toInt32)), (.int (nar .byte ((p2 >>> ((16 : Int32) &&& 31)).toInt8.toInt32)))]))
      refine own_st (fun t k => XS.icmpYes X108.here hx rfl (pc0 := 157) (pc' := 162) rfl (hb hby at_157) rfl (teq (own_bb _)).1 (by decide) (by decide) k) ?_
      show own_G _ _ _ _ _ _ _ (T108.setTop (mkF m 162 #[.val (.int p1), .val (.int p2), .val (.int p3), .val (.int p4), .val (.int (3 : Int32)), .val (.ref b1), .val (.int v6), .val (.ref b2), .val (.ref b1), .unset] []))
      refine own_st (fun t k => XS.aload X108.here hx rfl (hb hby at_162) rfl rfl k) ?_
      show own_G _ _ _ _ _ _ _ (T108.setTop (mkF m 164 #[.val (.int p1), .val (.int p2), .val (.int p3), .val (.int p4), .val (.int (3 : Int32)), .val (.ref b1), .val (.int v6), .val (.ref b2), .val (.ref b1), .unset] [(.ref b2)]))
      obtain ⟨cq110, kq110, q110a, q110b, q110c⟩ := isOf hZ e108 Ax105
      obtain ⟨_, _, ⟨T110, L110, k110, n110⟩, -, X110, ⟨Lc110, hQ110, l110, y110, z110⟩, st110⟩ := X108.virtualBack hx (y := (⟨"com/example/groveledger/groveledger/Lines$Line", "whole", "()[B"⟩ : MethodName)) (z := (⟨"com/example/groveledger/groveledger/Lines$Line", "whole", "()[B"⟩ : MethodName)) hown (mvT hZ (hw _ (List.mem_of_getElem? (i := 23) rfl))) (mvT hZ (hw _ (List.mem_of_getElem? (i := 24) rfl))) (notFace_of_selects (args := #[]) (mvT hZ (hw _ (List.mem_of_getElem? (i := 26) rfl)))) (mvT hZ (hw _ (List.mem_of_getElem? (i := 26) rfl))) (mvT hZ (hw _ (List.mem_of_getElem? (i := 25) rfl))) (by decide) (backOf (W := 0) (own_rm3 l Z a0 hw [] b2 b1 T105.heap n0 Zz107 Fl105 Ft105) hZ (hw _ (List.mem_of_getElem? (i := 27) rfl)) (hw _ (List.mem_of_getElem? (i := 3) rfl)) (by decide) (by decide)) q110a q110c (g := (mkF m 164 #[.val (.int p1), .val (.int p2), .val (.int p3), .val (.int p4), .val (.int (3 : Int32)), .val (.ref b1), .val (.int v6), .val (.ref b2), .val (.ref b1), .unset] [(.ref b2)])) rfl (by rw [hml]; rfl) (Steps.refl _) (argsL := []) (rest := []) (lenOf own_pd1 rfl) rfl (by show 2 * 0 + _ ≤ _; exact Nat.le_of_eq rfl) (hb hby at_164) (fun _ _ => ⟨rfl, e108, (by decide : 2 + 0 ≤ _), (by decide : 7 + 0 ≤ _)⟩)
      dsimp only [Pt.U, Pt.locs, Pt.cells, Pt.slots] at X110 l110 y110 z110 st110 hQ110
      subst l110 y110 z110
      obtain ⟨rfl, N110q, e110⟩ := hQ110
      have N110 := Fr.app N108 N110q
      refine own_st (fun t k => st110.trans k) ?_
      show own_G _ _ _ _ _ _ _ (T110.setTop (mkF m 167 #[.val (.int p1), .val (.int p2), .val (.int p3), .val (.int p4), .val (.int (3 : Int32)), .val (.ref b1), .val (.int v6), .val (.ref b2), .val (.ref b1), .unset] [(.ref b1)]))
      refine own_st (fun t k => XS.astore X110.here hx rfl (hb hby at_167) rfl rfl (l' := #[.val (.int p1), .val (.int p2), .val (.int p3), .val (.int p4), .val (.int (3 : Int32)), .val (.ref b1), .val (.int v6), .val (.ref b2), .val (.ref b1), .val (.ref b1)]) rfl k) ?_
      show own_G _ _ _ _ _ _ _ (T110.setTop (mkF m 169 #[.val (.int p1), .val (.int p2), .val (.int p3), .val (.int p4), .val (.int (3 : Int32)), .val (.ref b1), .val (.int v6), .val (.ref b2), .val (.ref b1), .val (.ref b1)] []))
      refine own_st (fun t k => XS.aload X110.here hx rfl (hb hby at_169) rfl rfl k) ?_
      show own_G _ _ _ _ _ _ _ (T110.setTop (mkF m 171 #[.val (.int p1), .val (.int p2), .val (.int p3), .val (.int p4), .val (.int (3 : Int32)), .val (.ref b1), .val (.int v6), .val (.ref b2), .val (.ref b1), .val (.ref b1)] [(.ref b1)]))
      refine own_st (fun t k => XS.aload X110.here hx rfl (hb hby at_171) rfl rfl k) ?_
      show own_G _ _ _ _ _ _ _ (T110.setTop (mkF m 173 #[.val (.int p1), .val (.int p2), .val (.int p3), .val (.int p4), .val (.int (3 : Int32)), .val (.ref b1), .val (.int v6), .val (.ref b2), .val (.ref b1), .val (.ref b1)] [(.ref b1), (.ref b1)]))
      refine own_st (fun t k => Jvm.RoadKit.acmp (g := (mkF m 173 #[.val (.int p1), .val (.int p2), .val (.int p3), .val (.int p4), .val (.int (3 : Int32)), .val (.ref b1), .val (.int v6), .val (.ref b2), .val (.ref b1), .val (.ref b1)] [(.ref b1), (.ref b1)])) X110 hx rfl rfl rfl (pc0 := 173) (pc' := 176) (same := true) rfl (hb hby at_173) rfl (decide_eq_true (congrArg Value.ref rfl)) (by decide) (by decide) k) ?_
      show own_G _ _ _ _ _ _ _ (T110.setTop (mkF m 176 #[.val (.int p1), .val (.int p2), .val (.int p3), .val (.int p4), .val (.int (3 : Int32)), .val (.ref b1), .val (.int v6), .val (.ref b2), .val (.ref b1), .val (.ref b1)] []))
      refine own_st (fun t k => XS.aload X110.here hx rfl (hb hby at_176) rfl rfl k) ?_
      show own_G _ _ _ _ _ _ _ (T110.setTop (mkF m 178 #[.val (.int p1), .val (.int p2), .val (.int p3), .val (.int p4), .val (.int (3 : Int32)), .val (.ref b1), .val (.int v6), .val (.ref b2), .val (.ref b1), .val (.ref b1)] [(.ref b2)]))
      obtain ⟨cq111, kq111, q111a, q111b, q111c⟩ := isOf hZ e110 Ax105
      obtain ⟨_, _, ⟨T111, L111, k111, n111⟩, -, X111, ⟨Lc111, hQ111, l111, y111, z111⟩, st111⟩ := X110.virtualBack hx (y := (⟨"com/example/groveledger/groveledger/Lines$Line", "number", "()I"⟩ : MethodName)) (z := (⟨"com/example/groveledger/groveledger/Lines$Line", "number", "()I"⟩ : MethodName)) hown (mvT hZ (hw _ (List.mem_of_getElem? (i := 28) rfl))) (mvT hZ (hw _ (List.mem_of_getElem? (i := 29) rfl))) (notFace_of_selects (args := #[]) (mvT hZ (hw _ (List.mem_of_getElem? (i := 31) rfl)))) (mvT hZ (hw _ (List.mem_of_getElem? (i := 31) rfl))) (mvT hZ (hw _ (List.mem_of_getElem? (i := 30) rfl))) (by decide) (backOf (W := 0) (own_rm4 l Z a0 hw [] b2 p1 T105.heap n0 Zz107 Fn105) hZ (hw _ (List.mem_of_getElem? (i := 32) rfl)) (hw _ (List.mem_of_getElem? (i := 3) rfl)) (by decide) (by decide)) q111a q111c (g := (mkF m 178 #[.val (.int p1), .val (.int p2), .val (.int p3), .val (.int p4), .val (.int (3 : Int32)), .val (.ref b1), .val (.int v6), .val (.ref b2), .val (.ref b1), .val (.ref b1)] [(.ref b2)])) rfl (by rw [hml]; rfl) (Steps.refl _) (argsL := []) (rest := []) (lenOf own_pd2 rfl) rfl (by show 2 * 0 + _ ≤ _; exact Nat.le_of_eq rfl) (hb hby at_178) (fun _ _ => ⟨rfl, e110, (by decide : 2 + 0 ≤ _), (by decide : 7 + 0 ≤ _)⟩)
      dsimp only [Pt.U, Pt.locs, Pt.cells, Pt.slots] at X111 l111 y111 z111 st111 hQ111
      subst l111 y111 z111
      obtain ⟨rfl, N111q, e111⟩ := hQ111
      have N111 := Fr.app N110 N111q
      refine own_st (fun t k => st111.trans k) ?_
      show own_G _ _ _ _ _ _ _ (T111.setTop (mkF m 181 #[.val (.int p1), .val (.int p2), .val (.int p3), .val (.int p4), .val (.int (3 : Int32)), .val (.ref b1), .val (.int v6), .val (.ref b2), .val (.ref b1), .val (.ref b1)] [(.int p1)]))
      refine own_st (fun t k => XS.iloadN X111.here hx rfl (hb hby at_181) rfl k) ?_
      show own_G _ _ _ _ _ _ _ (T111.setTop (mkF m 182 #[.val (.int p1), .val (.int p2), .val (.int p3), .val (.int p4), .val (.int (3 : Int32)), .val (.ref b1), .val (.int v6), .val (.ref b2), .val (.ref b1), .val (.ref b1)] [(.int p1), (.int p1)]))
      refine own_st (fun t k => XS.icmpNo X111.here hx rfl (hb hby at_182) rfl (teq rfl).2 k) ?_
      show own_G _ _ _ _ _ _ _ (T111.setTop (mkF m 185 #[.val (.int p1), .val (.int p2), .val (.int p3), .val (.int p4), .val (.int (3 : Int32)), .val (.ref b1), .val (.int v6), .val (.ref b2), .val (.ref b1), .val (.ref b1)] []))
      refine own_st (fun t k => XS.aload X111.here hx rfl (hb hby at_185) rfl rfl k) ?_
      show own_G _ _ _ _ _ _ _ (T111.setTop (mkF m 187 #[.val (.int p1), .val (.int p2), .val (.int p3), .val (.int p4), .val (.int (3 : Int32)), .val (.ref b1), .val (.int v6), .val (.ref b2), .val (.ref b1), .val (.ref b1)] [(.ref b2)]))
      obtain ⟨cq112, kq112, q112a, q112b, q112c⟩ := isOf hZ e111 Ax105
      obtain ⟨_, _, ⟨T112, L112, k112, n112⟩, -, X112, ⟨Lc112, hQ112, l112, y112, z112⟩, st112⟩ := X111.virtualBack hx (y := (⟨"com/example/groveledger/groveledger/Lines$Line", "ended", "()Z"⟩ : MethodName)) (z := (⟨"com/example/groveledger/groveledger/Lines$Line", "ended", "()Z"⟩ : MethodName)) hown (mvT hZ (hw _ (List.mem_of_getElem? (i := 33) rfl))) (mvT hZ (hw _ (List.mem_of_getElem? (i := 34) rfl))) (notFace_of_selects (args := #[]) (mvT hZ (hw _ (List.mem_of_getElem? (i := 36) rfl)))) (mvT hZ (hw _ (List.mem_of_getElem? (i := 36) rfl))) (mvT hZ (hw _ (List.mem_of_getElem? (i := 35) rfl))) (by decide) (backOf (W := 0) (own_rm5 l Z a0 hw [] b2 (nar .boolean v6) T105.heap n0 Zz107 Fe105) hZ (hw _ (List.mem_of_getElem? (i := 37) rfl)) (hw _ (List.mem_of_getElem? (i := 3) rfl)) (by decide) (by decide)) q112a q112c (g := (mkF m 187 #[.val (.int p1), .val (.int p2), .val (.int p3), .val (.int p4), .val (.int (3 : Int32)), .val (.ref b1), .val (.int v6), .val (.ref b2), .val (.ref b1), .val (.ref b1)] [(.ref b2)])) rfl (by rw [hml]; rfl) (Steps.refl _) (argsL := []) (rest := []) (lenOf own_pd3 rfl) rfl (by show 2 * 0 + _ ≤ _; exact Nat.le_of_eq rfl) (hb hby at_187) (fun _ _ => ⟨rfl, e111, (by decide : 2 + 0 ≤ _), (by decide : 7 + 0 ≤ _)⟩)
      dsimp only [Pt.U, Pt.locs, Pt.cells, Pt.slots] at X112 l112 y112 z112 st112 hQ112
      subst l112 y112 z112
      obtain ⟨rfl, N112q, e112⟩ := hQ112
      have N112 := Fr.app N111 N112q
      refine own_st (fun t k => st112.trans k) ?_
      show own_G _ _ _ _ _ _ _ (T112.setTop (mkF m 190 #[.val (.int p1), .val (.int p2), .val (.int p3), .val (.int p4), .val (.int (3 : Int32)), .val (.ref b1), .val (.int v6), .val (.ref b2), .val (.ref b1), .val (.ref b1)] [(.int (nar .boolean (nar .boolean v6)))]))
      refine own_st (fun t k => XS.iload X112.here hx rfl (hb hby at_190) rfl k) ?_
      show own_G _ _ _ _ _ _ _ (T112.setTop (mkF m 192 #[.val (.int p1), .val (.int p2), .val (.int p3), .val (.int p4), .val (.int (3 : Int32)), .val (.ref b1), .val (.int v6), .val (.ref b2), .val (.ref b1), .val (.ref b1)] [(.int v6), (.int (nar .boolean (nar .boolean v6)))]))
      refine own_st (fun t k => XS.icmpNo X112.here hx rfl (hb hby at_192) rfl (teq (own_nb hv6)).2 k) ?_
      show own_G _ _ _ _ _ _ _ (T112.setTop (mkF m 195 #[.val (.int p1), .val (.int p2), .val (.int p3), .val (.int p4), .val (.int (3 : Int32)), .val (.ref b1), .val (.int v6), .val (.ref b2), .val (.ref b1), .val (.ref b1)] []))
      refine own_st (fun t k => XS.aload X112.here hx rfl (hb hby at_195) rfl rfl k) ?_
      show own_G _ _ _ _ _ _ _ (T112.setTop (mkF m 197 #[.val (.int p1), .val (.int p2), .val (.int p3), .val (.int p4), .val (.int (3 : Int32)), .val (.ref b1), .val (.int v6), .val (.ref b2), .val (.ref b1), .val (.ref b1)] [(.ref b2)]))
      obtain ⟨cq113, kq113, q113a, q113b, q113c⟩ := isOf hZ e112 Ax105
      obtain ⟨_, _, ⟨T113, L113, k113, n113⟩, -, X113, ⟨Lc113, hQ113, l113, y113, z113⟩, st113⟩ := X112.virtualBack hx (y := (⟨"com/example/groveledger/groveledger/Lines$Line", "tooLong", "()Z"⟩ : MethodName)) (z := (⟨"com/example/groveledger/groveledger/Lines$Line", "tooLong", "()Z"⟩ : MethodName)) hown (mvT hZ (hw _ (List.mem_of_getElem? (i := 38) rfl))) (mvT hZ (hw _ (List.mem_of_getElem? (i := 39) rfl))) (notFace_of_selects (args := #[]) (mvT hZ (hw _ (List.mem_of_getElem? (i := 41) rfl)))) (mvT hZ (hw _ (List.mem_of_getElem? (i := 41) rfl))) (mvT hZ (hw _ (List.mem_of_getElem? (i := 40) rfl))) (by decide) (backOf (W := 0) (own_rm6 l Z a0 hw [] b2 0 T105.heap n0 Zz107 Fl105) hZ (hw _ (List.mem_of_getElem? (i := 42) rfl)) (hw _ (List.mem_of_getElem? (i := 3) rfl)) (by decide) (by decide)) q113a q113c (g := (mkF m 197 #[.val (.int p1), .val (.int p2), .val (.int p3), .val (.int p4), .val (.int (3 : Int32)), .val (.ref b1), .val (.int v6), .val (.ref b2), .val (.ref b1), .val (.ref b1)] [(.ref b2)])) rfl (by rw [hml]; rfl) (Steps.refl _) (argsL := []) (rest := []) (lenOf own_pd3 rfl) rfl (by show 2 * 0 + _ ≤ _; exact Nat.le_of_eq rfl) (hb hby at_197) (fun _ _ => ⟨rfl, e112, (by decide : 2 + 0 ≤ _), (by decide : 7 + 0 ≤ _)⟩)
      dsimp only [Pt.U, Pt.locs, Pt.cells, Pt.slots] at X113 l113 y113 z113 st113 hQ113
      subst l113 y113 z113
      obtain ⟨rfl, N113q, e113⟩ := hQ113
      have N113 := Fr.app N112 N113q
      refine own_st (fun t k => st113.trans k) ?_
      show own_G _ _ _ _ _ _ _ (T113.setTop (mkF m 200 #[.val (.int p1), .val (.int p2), .val (.int p3), .val (.int p4), .val (.int (3 : Int32)), .val (.ref b1), .val (.int v6), .val (.ref b2), .val (.ref b1), .val (.ref b1)] [(.int (nar .boolean (0 : Int32)))]))
      refine own_st (fun t k => XS.ifNo X113.here hx rfl (hb hby at_200) rfl ((if0 _ _).trans (teq own_z).2) k) ?_
      show own_G _ _ _ _ _ _ _ (T113.setTop (mkF m 203 #[.val (.int p1), .val (.int p2), .val (.int p3), .val (.int p4), .val (.int (3 : Int32)), .val (.ref b1), .val (.int v6), .val (.ref b2), .val (.ref b1), .val (.ref b1)] []))
      refine own_st (fun t k => XS.iconst X113.here hx rfl (hb hby at_203) k) ?_
      show own_G _ _ _ _ _ _ _ (T113.setTop (mkF m 204 #[.val (.int p1), .val (.int p2), .val (.int p3), .val (.int p4), .val (.int (3 : Int32)), .val (.ref b1), .val (.int v6), .val (.ref b2), .val (.ref b1), .val (.ref b1)] [(.int (1 : Int32))]))
      refine own_st (fun t k => XS.goto X113.here hx rfl (pc0 := 204) (pc' := 208) rfl (hb hby at_204) (by decide) (by decide) k) ?_
      show own_G _ _ _ _ _ _ _ (T113.setTop (mkF m 208 #[.val (.int p1), .val (.int p2), .val (.int p3), .val (.int p4), .val (.int (3 : Int32)), .val (.ref b1), .val (.int v6), .val (.ref b2), .val (.ref b1), .val (.ref b1)] [(.int (1 : Int32))]))
      exact own_retN (t := .boolean) (by simp) X113 hx Bd.returns (BodyLoose.notSynchronized Bd) (hb hby at_208) (by decide) (by decide) ⟨rfl, N113⟩
    by_cases h6 : (p4 &&& (1 : Int32)) = (0 : Int32)
    · refine own_st (fun t k => XS.ifYes X100.here hx rfl (pc0 := 55) (pc' := 62) rfl (hb hby at_55) rfl ((if0 _ _).trans (teq h6).1) (by decide) (by decide) k) ?_
      show own_G _ _ _ _ _ _ _ (T100.setTop (mkF m 62 #[.val (.int p1), .val (.int p2), .val (.int p3), .val (.int p4), .val (.int (3 : Int32)), .val (.ref b1), .unset, .unset, .unset, .unset] []))
      refine own_st (fun t k => XS.iconst X100.here hx rfl (hb hby at_62) k) ?_
      show own_G _ _ _ _ _ _ _ (T100.setTop (mkF m 63 #[.val (.int p1), .val (.int p2), .val (.int p3), .val (.int p4), .val (.int (3 : Int32)), .val (.ref b1), .unset, .unset, .unset, .unset] [(.int (0 : Int32))]))
      exact J _ (Or.inl rfl)
    · refine own_st (fun t k => XS.ifNo X100.here hx rfl (hb hby at_55) rfl ((if0 _ _).trans (feq h6).1) k) ?_
      show own_G _ _ _ _ _ _ _ (T100.setTop (mkF m 58 #[.val (.int p1), .val (.int p2), .val (.int p3), .val (.int p4), .val (.int (3 : Int32)), .val (.ref b1), .unset, .unset, .unset, .unset] []))
      refine own_st (fun t k => XS.iconst X100.here hx rfl (hb hby at_58) k) ?_
      show own_G _ _ _ _ _ _ _ (T100.setTop (mkF m 59 #[.val (.int p1), .val (.int p2), .val (.int p3), .val (.int p4), .val (.int (3 : Int32)), .val (.ref b1), .unset, .unset, .unset, .unset] [(.int (1 : Int32))]))
      refine own_st (fun t k => XS.goto X100.here hx rfl (pc0 := 59) (pc' := 63) rfl (hb hby at_59) (by decide) (by decide) k) ?_
      show own_G _ _ _ _ _ _ _ (T100.setTop (mkF m 63 #[.val (.int p1), .val (.int p2), .val (.int p3), .val (.int p4), .val (.int (3 : Int32)), .val (.ref b1), .unset, .unset, .unset, .unset] [(.int (1 : Int32))]))
      exact J _ (Or.inr rfl)
set_option maxRecDepth 65536 in
set_option maxHeartbeats 40000000 in
theorem own_comes {Post : Tables → Env → Array Value → State → Outcome → State → Prop} (hpost : ∀ tb e args s v u, (limb_1_1.after args s (.returned v) u = true ∧ limb_1_2.after args s (.returned v) u = true ∧ True) → FrameEnd s (.returned v) u (Jvm.fieldLocs frame_1_writes args s ++ Jvm.arrayLocs frame_1_arrays args s ++ Jvm.staticLocs frame_1_statics s) 16 128 → Post tb e args s (.returned v) u) :
    ArmFor flags0 classFile x code maxLocals ret World_1 tables_1 room_1 Calls_1 rest_1 Pre_1 Post := by
  intro l hfl _ _ p e ha hc hk s m args below hf hA hF happ hP
  obtain ⟨hcalls, hrest, hpre⟩ := hP
  obtain ⟨-, -, -, hnamed, -, -, -, hat⟩ := (Spec.applies_iff hf).mp happ
  obtain ⟨hg, hn⟩ := and_e (Cond.before_iff.mp (show (Jvm.Cond.and given_1 narrow_1).before args s = true from hpre))
  obtain ⟨gc, ga0⟩ := and_e hg
  obtain ⟨gi0, ga1⟩ := and_e ga0
  obtain ⟨gi1, ga2⟩ := and_e ga1
  obtain ⟨gi2, ga3⟩ := and_e ga2
  obtain ⟨w0, w1, w2, w3, rfl⟩ : ∃ w0 w1 w2 w3 : Value, args = #[w0, w1, w2, w3] := by
    have hs : args.size = 4 := by simpa [Cond.value, given_1] using gc
    obtain ⟨L⟩ := args
    match L, hs with
    | [w0, w1, w2, w3], _ => exact ⟨w0, w1, w2, w3, rfl⟩
  have hw := fun d (hd : d ∈ tables_1) => atoms_spec (ws := Jvm.Cond.code x code maxLocals ret :: tables_1) hat d (List.mem_cons_of_mem _ hd)
  have hfit : Fit s := fun {y c} hc i hi => by
    obtain ⟨ha, rfl⟩ := Array.getElem?_eq_some_iff.mp hc
    have q := List.all_eq_true.mp ((Array.all_eq_true_iff_forall_mem.mp hF) _ (Array.getElem_mem ha)) i (List.mem_range.mpr hi)
    simpa [Array.getElem?_eq_getElem hi] using q
  obtain ⟨i0, ei0⟩ := is_v gi0
  obtain rfl : w0 = (.int i0) := Option.some.inj ei0
  obtain ⟨i1, ei1⟩ := is_v gi1
  obtain rfl : w1 = (.int i1) := Option.some.inj ei1
  obtain ⟨i2, ei2⟩ := is_v gi2
  obtain rfl : w2 = (.int i2) := Option.some.inj ei2
  obtain ⟨i3, ei3⟩ := is_v ga3
  obtain rfl : w3 = (.int i3) := Option.some.inj ei3
  obtain ⟨n, o, h1, h2, h3, _, L, rfl, ⟨rfl, N⟩, hq⟩ := own_rm0 l s _ hw tables_1 i0 i1 i2 i3 s.heap s.heap.size (Nat.le_refl _)  p e ha hc hk s m _ below hf ((Spec.applies_iff_loose hf).mp happ).1 ⟨rfl, State.Warmed39.refl s, rfl⟩ trivial
  refine ⟨n, _, h1, h2, h3, hpost _ _ _ _ _ _ ⟨Cond.after_iff.mpr rfl, Cond.after_iff.mpr (eq_i res_at (Term.int_eval (1)) rfl), trivial⟩ ⟨hq.1, hq.2.1, (hq.2.2.sift fun y hy => Or.inr (N y hy)).mono (by decide) (by decide)⟩⟩
theorem main_1_1 : Claimed_1_1 := own_comes fun _ _ _ _ _ _ h hF => ⟨h.1, hF⟩
theorem main_1_2 : Claimed_1_2 := own_comes fun _ _ _ _ _ _ h hF => ⟨h.2.1, hF⟩
end Jvm.Pilot.@@N@@
namespace Jvm.Pilot.@@N@@
open Jvm Jvm.ClassFile Sem Op Lib Jvm.Free Jvm.Stand Jvm.Pilot.@@N@@.Jvm.D
/-! MADE BY PROGRAM (witnessworld.py) out of the Statement's table words and the real class files: 10 classes; the members and pool entries that the words name. The judged class is class 1, her method 1. -/
namespace start1
open Jvm.ClassFile
def u (s : String) : CpInfo := .utf8 (stringToUtf16 s)
/-- a pool by its gaps: so many unusable entries, then the entry; so many at the end -/
def gap : Nat → List CpInfo → List CpInfo
  | 0, r => r
  | n + 1, r => .unusable :: gap n r
def poolList (es : List (Nat × CpInfo)) (last : Nat) : List CpInfo := es.foldr (fun e r => gap e.1 (e.2 :: r)) (gap last [])
def pool (es : List (Nat × CpInfo)) (last : Nat) : Array CpInfo := ⟨poolList es last⟩
def fileOf (pool : Array CpInfo) (this : Nat) (attrs : Array Attribute := #[]) (ms : Array MethodInfo := #[]) (fl : Nat := 33) (sup : Nat := 0) (ifs : Array Nat := #[]) (fds : Array FieldInfo := #[]) : ClassFile where
  minorVersion := 0
  majorVersion := 65
  constantPool := pool
  accessFlags := fl
  thisClass := this
  superClass := sup
  interfaces := ifs
  fields := fds
  methods := ms
  attributes := attrs
def plain (name : String) (sup : Option ClassId) : Class where
  name := name
  kind := .ordinary
  loader := none
  accessFlags := 33
  super := sup
  interfaces := #[]
  cf := none
  fields := #[]
  methods := #[]
  instanceTypes := #[]
  staticTypes := #[]
  resolved := #[]
  callSites := []
  init := .initialized
  statics := none
  mirror := none

def pool0 : Array CpInfo := pool [(5, u "<init>"), (0, u "()V"), (1, .class_ 10), (1, u "java/lang/Object")] 113

def k0c0 : Code := { maxStack := 0, maxLocals := 1, code := object_method_1_code, exceptionTable := #[], attributes := #[] }
def k0m0 : Method := { name := "<init>", desc := "()V", sig := { parameters := [], returnType := none }, accessFlags := 1, code := some k0c0 }
/-- java/lang/Object -/
def k0 : Class := { plain "java/lang/Object" none with
  accessFlags := 33
  interfaces := #[]
  cf := some (fileOf pool0 8 #[] #[{ accessFlags := 1, nameIndex := 5, descriptorIndex := 6, attributes := #[] }] 33 0 #[] #[])
  fields := #[]
  methods := #[k0m0]
  instanceTypes := #[]
  staticTypes := #[]
  resolved := Array.replicate 124 none
  statics := none }

def pool1 : Array CpInfo := pool [(2, .class_ 4), (1, u "java/lang/Object"), (0, u "<init>"), (0, u "()V"), (0, .class_ 8), (0, u "com/example/groveledger/groveledger/Lines$Line"), (0, .methodref 7 10), (0, .nameAndType 5 11), (0, u "(I[BZZ)V"), (0, .methodref 7 13), (0, .nameAndType 14 15), (0, u "whole"), (0, u "()[B"), (0, .methodref 7 17), (0, .nameAndType 18 19), (0, u "number"), (0, u "()I"), (0, .methodref 7 21), (0, .nameAndType 22 23), (0, u "ended"), (0, u "()Z"), (0, .methodref 7 25), (0, .nameAndType 26 23), (0, u "tooLong"), (0, .class_ 28), (0, u "com/example/groveledger/groveledger/LineWholePinLaw"), (2, u "law"), (0, u "(IIII)Z")] 9

def k1m0 : Method := { name := "<init>", desc := "()V", sig := { parameters := [], returnType := none }, accessFlags := 2, code := none }
def k1c1 : Code := { maxStack := 6, maxLocals := 10, code := code, exceptionTable := #[], attributes := #[] }
def k1m1 : Method := { name := "law", desc := "(IIII)Z", sig := { parameters := [.int, .int, .int, .int], returnType := some .boolean }, accessFlags := 9, code := some k1c1 }
/-- com/example/groveledger/groveledger/LineWholePinLaw -/
def k1 : Class := { plain "com/example/groveledger/groveledger/LineWholePinLaw" (some 0) with
  accessFlags := 49
  interfaces := #[]
  cf := some (fileOf pool1 27 #[] #[{ accessFlags := 2, nameIndex := 5, descriptorIndex := 6, attributes := #[] }, { accessFlags := 9, nameIndex := 31, descriptorIndex := 32, attributes := #[] }] 49 2 #[] #[])
  fields := #[]
  methods := #[k1m0, k1m1]
  instanceTypes := #[]
  staticTypes := #[]
  resolved := Array.replicate 42 none
  statics := none }

def pool2 : Array CpInfo := pool [(1, .methodref 2 3), (0, .class_ 4), (0, .nameAndType 5 6), (0, u "java/lang/Object"), (0, u "<init>"), (0, u "()V"), (0, .class_ 8), (0, u "java/lang/Record")] 13

def k2c0 : Code := { maxStack := 1, maxLocals := 1, code := jdk_30_method_1_code, exceptionTable := #[], attributes := #[] }
def k2m0 : Method := { name := "<init>", desc := "()V", sig := { parameters := [], returnType := none }, accessFlags := 4, code := some k2c0 }
/-- java/lang/Record -/
def k2 : Class := { plain "java/lang/Record" (some 0) with
  accessFlags := 1057
  interfaces := #[]
  cf := some (fileOf pool2 7 #[] #[{ accessFlags := 4, nameIndex := 5, descriptorIndex := 6, attributes := #[] }] 1057 2 #[] #[])
  fields := #[]
  methods := #[k2m0]
  instanceTypes := #[]
  staticTypes := #[]
  resolved := Array.replicate 22 none
  statics := none }

def pool3 : Array CpInfo := pool [(1, .methodref 2 3), (0, .class_ 4), (0, .nameAndType 5 6), (0, u "java/lang/Record"), (0, u "<init>"), (0, u "()V"), (0, .fieldref 8 9), (0, .class_ 10), (0, .nameAndType 11 12), (0, u "com/example/groveledger/groveledger/Lines$Line"), (0, u "number"), (0, u "I"), (0, .fieldref 8 14), (0, .nameAndType 15 16), (0, u "text"), (0, u "[B"), (0, .fieldref 8 18), (0, .nameAndType 19 20), (0, u "ended"), (0, u "Z"), (0, .fieldref 8 22), (0, .nameAndType 23 20), (0, u "tooLong"), (3, .class_ 29), (1, u "com/example/groveledger/groveledger/Lines"), (14, u "(I[BZZ)V"), (3, u "whole"), (0, u "()[B"), (2, u "()I"), (1, u "()Z")] 25

def k3c0 : Code := { maxStack := 2, maxLocals := 5, code := prog_7_method_1_code, exceptionTable := #[], attributes := #[] }
def k3m0 : Method := { name := "<init>", desc := "(I[BZZ)V", sig := { parameters := [.int, (.array .byte), .boolean, .boolean], returnType := none }, accessFlags := 0, code := some k3c0 }
def k3c1 : Code := { maxStack := 1, maxLocals := 1, code := prog_7_method_2_code, exceptionTable := #[], attributes := #[] }
def k3m1 : Method := { name := "whole", desc := "()[B", sig := { parameters := [], returnType := some (.array .byte) }, accessFlags := 0, code := some k3c1 }
def k3c2 : Code := { maxStack := 1, maxLocals := 1, code := prog_7_method_6_code, exceptionTable := #[], attributes := #[] }
def k3m2 : Method := { name := "number", desc := "()I", sig := { parameters := [], returnType := some .int }, accessFlags := 1, code := some k3c2 }
def k3c3 : Code := { maxStack := 1, maxLocals := 1, code := prog_7_method_8_code, exceptionTable := #[], attributes := #[] }
def k3m3 : Method := { name := "ended", desc := "()Z", sig := { parameters := [], returnType := some .boolean }, accessFlags := 1, code := some k3c3 }
def k3c4 : Code := { maxStack := 1, maxLocals := 1, code := prog_7_method_9_code, exceptionTable := #[], attributes := #[] }
def k3m4 : Method := { name := "tooLong", desc := "()Z", sig := { parameters := [], returnType := some .boolean }, accessFlags := 1, code := some k3c4 }
/-- com/example/groveledger/groveledger/Lines$Line -/
def k3 : Class := { plain "com/example/groveledger/groveledger/Lines$Line" (some 2) with
  accessFlags := 48
  interfaces := #[]
  cf := some (fileOf pool3 8 #[.nestHost 27] #[{ accessFlags := 0, nameIndex := 5, descriptorIndex := 44, attributes := #[] }, { accessFlags := 0, nameIndex := 48, descriptorIndex := 49, attributes := #[] }, { accessFlags := 1, nameIndex := 11, descriptorIndex := 52, attributes := #[] }, { accessFlags := 1, nameIndex := 19, descriptorIndex := 54, attributes := #[] }, { accessFlags := 1, nameIndex := 23, descriptorIndex := 54, attributes := #[] }] 48 2 #[] #[{ accessFlags := 18, nameIndex := 11, descriptorIndex := 12, attributes := #[] }, { accessFlags := 18, nameIndex := 15, descriptorIndex := 16, attributes := #[] }, { accessFlags := 18, nameIndex := 19, descriptorIndex := 20, attributes := #[] }, { accessFlags := 18, nameIndex := 23, descriptorIndex := 20, attributes := #[] }])
  fields := #[{ name := "number", type := .int, accessFlags := 18, slot := 0, constantValue := 0 }, { name := "text", type := (.array .byte), accessFlags := 18, slot := 1, constantValue := 0 }, { name := "ended", type := .boolean, accessFlags := 18, slot := 2, constantValue := 0 }, { name := "tooLong", type := .boolean, accessFlags := 18, slot := 3, constantValue := 0 }]
  methods := #[k3m0, k3m1, k3m2, k3m3, k3m4]
  instanceTypes := #[.int, (.array .byte), .boolean, .boolean]
  staticTypes := #[]
  resolved := Array.replicate 80 none
  statics := none }

def pool4 : Array CpInfo := pool [(1, u "java/lang/Cloneable"), (0, .class_ 1), (0, u "java/lang/Object"), (0, .class_ 3)] 3

/-- java/lang/Cloneable -/
def k4 : Class := { plain "java/lang/Cloneable" (some 0) with
  accessFlags := 1537
  interfaces := #[]
  cf := some (fileOf pool4 2 #[] #[] 1537 4 #[] #[])
  fields := #[]
  methods := #[]
  instanceTypes := #[]
  staticTypes := #[]
  resolved := Array.replicate 8 none
  statics := none }

def pool5 : Array CpInfo := pool [(1, u "java/io/Serializable"), (0, .class_ 1), (0, u "java/lang/Object"), (0, .class_ 3)] 3

/-- java/io/Serializable -/
def k5 : Class := { plain "java/io/Serializable" (some 0) with
  accessFlags := 1537
  interfaces := #[]
  cf := some (fileOf pool5 2 #[] #[] 1537 4 #[] #[])
  fields := #[]
  methods := #[]
  instanceTypes := #[]
  staticTypes := #[]
  resolved := Array.replicate 8 none
  statics := none }

/-- the primitive byte -/
def k6 : Class := { plain "byte" none with kind := .primitive 'B', accessFlags := 0x411 }
/-- [B -/
def k7 : Class := { plain "[B" (some 0) with kind := .array 6 .byte, interfaces := #[4, 5], accessFlags := 1041 }

/-- the primitive int -/
def k8 : Class := { plain "int" none with kind := .primitive 'I', accessFlags := 0x411 }
/-- [I -/
def k9 : Class := { plain "[I" (some 0) with kind := .array 8 .int, interfaces := #[4, 5], accessFlags := 1041 }

def heap : Heap := #[]
def classes : Array Class := #[k0, k1, k2, k3, k4, k5, k6, k7, k8, k9]
def interned : List (Array UInt16 × Addr) := []
def slotsUsed : Nat := 0
def theMethod : MethodId := ⟨1, 1⟩
def args0 : Array Value := #[.int 5, .int 7, .int 3, .int 1]
def aboutOver (below : List Frame) : State where
  vm := { classes := classes, interned := interned.toArray }
  heap := heap
  slotsUsed := slotsUsed
  threads := #[{ frames := .invoking theMethod args0 :: below }]
def below0 : List Frame := [.native { method := ⟨0, 0⟩, args := #[] }]
def about1 : State := aboutOver below0
def p0 : Program := .bare "" "" ""
def e0 : Env := launch0.env 0 0 0
theorem w_frames : about1.frames = Frame.invoking theMethod args0 :: below0 := rfl
set_option maxRecDepth 65536 in
theorem w_args : argsFit about1.vm theMethod args0 = true := by decide +kernel
set_option maxRecDepth 65536 in
theorem w_heap : heapFits about1 = true := by decide +kernel
set_option maxRecDepth 65536 in
theorem w_runnable : about1.curStatus? = some .runnable := by decide +kernel
set_option maxRecDepth 65536 in
theorem w_alone : about1.alone = true := by decide +kernel
set_option maxRecDepth 65536 in
theorem w_named : about1.methodNamed? x = some theMethod := by decide +kernel
set_option maxRecDepth 65536 in
theorem w_hears : about1.hears theMethod below0 = true := by decide +kernel
set_option maxRecDepth 65536 in
theorem w_ripe : about1.ripe theMethod args0 below0 = true := by decide +kernel
theorem w_running : about1.status = .running := rfl
set_option maxRecDepth 65536 in
theorem w_room : about1.hasRoom e0.platform room_1 = true :=
  launch0.hasRoom_least _ room_1 (by decide +kernel) (by decide +kernel) (by decide +kernel) (by decide +kernel) (by decide +kernel) (by decide +kernel)
theorem allAtoms_all (ts : List Jvm.Cond) (a : Array Jvm.Value) (st : Jvm.State) : (allAtoms ts).before a st = ts.all (fun c => c.before a st) := by
  induction ts with
  | nil => rfl
  | cons c t ih =>
    show (Jvm.Cond.and c (allAtoms t)).before a st = _
    rw [Jvm.Cond.before_and, ih, List.all_cons]
def words1 : List Jvm.Cond := Jvm.Cond.code x code maxLocals ret :: tables_1
/-- a 'code' word, met by the world's own term for the bytes: nothing is compared byte by byte -/
theorem code_word {y : MethodName} {bytes : ByteArray} {mx : Nat} {rt : Option FieldType} {a : Array Value} {s : State} {m : MethodId} {meth : Method} {c : Code} (h1 : s.methodNamed? y = some m) (h2 : s.vm.method? m = some meth) (h3 : meth.code = some c) (h4 : c.code = bytes)
    (h5 : (c.maxLocals == mx && c.exceptionTable.isEmpty && decide (c.maxStack ≤ mostOperands) && decide (meth.sig.returnType = rt) && !meth.locks && decide (parseMethodDescriptor y.desc = some meth.sig)) = true) : (Jvm.Cond.code y bytes mx rt).before a s = true := by
  simp only [Bool.and_eq_true, beq_iff_eq, Bool.not_eq_true', decide_eq_true_eq] at h5
  obtain ⟨⟨⟨⟨⟨g1, g2⟩, g3⟩, g4⟩, g5⟩, g6⟩ := h5
  simp [Cond.before, Cond.holds, Cond.value, h1, h2, h3, h4, g1, g2, g3, g4, g5, g6]
def isCode : Jvm.Cond → Bool
  | .code _ _ _ _ => true
  | _ => false
theorem all_split {L : List Jvm.Cond} {P : Jvm.Cond → Bool} (h1 : L.all (fun c => isCode c || P c) = true) (h2 : ∀ c ∈ L.filter isCode, P c = true) : L.all P = true := by
  refine List.all_eq_true.mpr fun c hc => ?_
  have h := List.all_eq_true.mp h1 c hc
  rcases Bool.eq_false_or_eq_true (isCode c) with hi | hi
  · exact h2 c (List.mem_filter.mpr ⟨hc, hi⟩)
  · simpa [hi] using h
set_option maxRecDepth 65536 in
theorem w_c0 : (Jvm.Cond.code x code maxLocals ret).before args0 about1 = true := code_word (m := ⟨1, 1⟩) (meth := k1m1) (c := k1c1) (by decide +kernel) rfl rfl rfl (by decide +kernel)
set_option maxRecDepth 65536 in
theorem w_c1 : (Jvm.Cond.code ({ cls := "com/example/groveledger/groveledger/Lines$Line", name := "<init>", desc := "(I[BZZ)V" } : Jvm.MethodName) prog_7_method_1_code (5 : Nat) (Option.none : Option Jvm.ClassFile.FieldType)).before args0 about1 = true := code_word (m := ⟨3, 0⟩) (meth := k3m0) (c := k3c0) (by decide +kernel) rfl rfl rfl (by decide +kernel)
set_option maxRecDepth 65536 in
theorem w_c2 : (Jvm.Cond.code ({ cls := "java/lang/Record", name := "<init>", desc := "()V" } : Jvm.MethodName) jdk_30_method_1_code (1 : Nat) (Option.none : Option Jvm.ClassFile.FieldType)).before args0 about1 = true := code_word (m := ⟨2, 0⟩) (meth := k2m0) (c := k2c0) (by decide +kernel) rfl rfl rfl (by decide +kernel)
set_option maxRecDepth 65536 in
theorem w_c3 : (Jvm.Cond.code ({ cls := "java/lang/Object", name := "<init>", desc := "()V" } : Jvm.MethodName) object_method_1_code (1 : Nat) (Option.none : Option Jvm.ClassFile.FieldType)).before args0 about1 = true := code_word (m := ⟨0, 0⟩) (meth := k0m0) (c := k0c0) (by decide +kernel) rfl rfl rfl (by decide +kernel)
set_option maxRecDepth 65536 in
theorem w_c4 : (Jvm.Cond.code ({ cls := "com/example/groveledger/groveledger/Lines$Line", name := "whole", desc := "()[B" } : Jvm.MethodName) prog_7_method_2_code (1 : Nat) (Option.some (Jvm.ClassFile.FieldType.array Jvm.ClassFile.FieldType.byte))).before args0 about1 = true := code_word (m := ⟨3, 1⟩) (meth := k3m1) (c := k3c1) (by decide +kernel) rfl rfl rfl (by decide +kernel)
set_option maxRecDepth 65536 in
theorem w_c5 : (Jvm.Cond.code ({ cls := "com/example/groveledger/groveledger/Lines$Line", name := "number", desc := "()I" } : Jvm.MethodName) prog_7_method_6_code (1 : Nat) (Option.some Jvm.ClassFile.FieldType.int)).before args0 about1 = true := code_word (m := ⟨3, 2⟩) (meth := k3m2) (c := k3c2) (by decide +kernel) rfl rfl rfl (by decide +kernel)
set_option maxRecDepth 65536 in
theorem w_c6 : (Jvm.Cond.code ({ cls := "com/example/groveledger/groveledger/Lines$Line", name := "ended", desc := "()Z" } : Jvm.MethodName) prog_7_method_8_code (1 : Nat) (Option.some Jvm.ClassFile.FieldType.boolean)).before args0 about1 = true := code_word (m := ⟨3, 3⟩) (meth := k3m3) (c := k3c3) (by decide +kernel) rfl rfl rfl (by decide +kernel)
set_option maxRecDepth 65536 in
theorem w_c7 : (Jvm.Cond.code ({ cls := "com/example/groveledger/groveledger/Lines$Line", name := "tooLong", desc := "()Z" } : Jvm.MethodName) prog_7_method_9_code (1 : Nat) (Option.some Jvm.ClassFile.FieldType.boolean)).before args0 about1 = true := code_word (m := ⟨3, 4⟩) (meth := k3m4) (c := k3c4) (by decide +kernel) rfl rfl rfl (by decide +kernel)
def codes1 : List Jvm.Cond := [Jvm.Cond.code x code maxLocals ret, Jvm.Cond.code ({ cls := "com/example/groveledger/groveledger/Lines$Line", name := "<init>", desc := "(I[BZZ)V" } : Jvm.MethodName) prog_7_method_1_code (5 : Nat) (Option.none : Option Jvm.ClassFile.FieldType), Jvm.Cond.code ({ cls := "java/lang/Record", name := "<init>", desc := "()V" } : Jvm.MethodName) jdk_30_method_1_code (1 : Nat) (Option.none : Option Jvm.ClassFile.FieldType), Jvm.Cond.code ({ cls := "java/lang/Object", name := "<init>", desc := "()V" } : Jvm.MethodName) object_method_1_code (1 : Nat) (Option.none : Option Jvm.ClassFile.FieldType), Jvm.Cond.code ({ cls := "com/example/groveledger/groveledger/Lines$Line", name := "whole", desc := "()[B" } : Jvm.MethodName) prog_7_method_2_code (1 : Nat) (Option.some (Jvm.ClassFile.FieldType.array Jvm.ClassFile.FieldType.byte)), Jvm.Cond.code ({ cls := "com/example/groveledger/groveledger/Lines$Line", name := "number", desc := "()I" } : Jvm.MethodName) prog_7_method_6_code (1 : Nat) (Option.some Jvm.ClassFile.FieldType.int), Jvm.Cond.code ({ cls := "com/example/groveledger/groveledger/Lines$Line", name := "ended", desc := "()Z" } : Jvm.MethodName) prog_7_method_8_code (1 : Nat) (Option.some Jvm.ClassFile.FieldType.boolean), Jvm.Cond.code ({ cls := "com/example/groveledger/groveledger/Lines$Line", name := "tooLong", desc := "()Z" } : Jvm.MethodName) prog_7_method_9_code (1 : Nat) (Option.some Jvm.ClassFile.FieldType.boolean)]
set_option maxRecDepth 65536 in
theorem codes_eq : words1.filter isCode = codes1 := rfl
theorem w_codes : ∀ c ∈ words1.filter isCode, c.before args0 about1 = true := by
  rw [codes_eq]
  intro c hc
  simp only [codes1, List.mem_cons, List.not_mem_nil, or_false] at hc
  rcases hc with rfl | rfl | rfl | rfl | rfl | rfl | rfl | rfl
  · exact w_c0
  · exact w_c1
  · exact w_c2
  · exact w_c3
  · exact w_c4
  · exact w_c5
  · exact w_c6
  · exact w_c7
set_option maxRecDepth 65536 in
theorem w_t1 : (words1.take 24).all (fun c => isCode c || c.before args0 about1) = true := by decide +kernel
set_option maxRecDepth 65536 in
theorem w_t2 : (words1.drop 24).all (fun c => isCode c || c.before args0 about1) = true := by decide +kernel
theorem w_tables : (allAtoms (Jvm.Cond.code x code maxLocals ret :: tables_1)).before args0 about1 = true := by
  rw [allAtoms_all]
  show words1.all (fun c => c.before args0 about1) = true
  refine all_split ?_ w_codes
  rw [← List.take_append_drop 24 words1, List.all_append, w_t1, w_t2]
  rfl
set_option maxRecDepth 65536 in
theorem w_case : (Jvm.Cond.and given_1 narrow_1).before args0 about1 = true := by decide +kernel
theorem w_applies : (headSpec (Jvm.Cond.code x code maxLocals ret :: tables_1) room_1).applies x e0.platform about1 = true :=
  (Spec.applies_iff w_frames).mpr ⟨w_running, w_runnable, w_alone, w_named, w_hears, w_ripe, w_room, w_tables⟩
theorem atStart : AtStart classFile x code maxLocals ret World_1 tables_1 room_1 Calls_1 rest_1 Pre_1 launch0 p0 e0 about1 theMethod args0 below0 :=
  ⟨lists_1, trivial, launch0.admits_env _ _ _, launch0.least_env, fairChoices_fair.cas, fairChoices_fair.clock, w_frames, w_args, w_heap, w_applies, trivial, trivial, w_case⟩
end start1
theorem witness_1 : WitnessClaimed_1 := ⟨start1.p0, start1.e0, start1.about1, start1.theMethod, start1.args0, start1.below0, start1.atStart⟩
end Jvm.Pilot.@@N@@
