import JvmDerived
import JvmDerived.Pilot.@@N@@Statement
import JvmDerived.Pilot.@@N@@Code
set_option linter.unusedVariables false
set_option linter.unusedSimpArgs false
namespace Jvm.Pilot.@@N@@
open Jvm Jvm.ClassFile Sem Op Lib Jvm.Free Jvm.Stand Jvm.LawKit Jvm.RoadKit Bundle Jvm.Pilot.@@N@@.Jvm.D
/-! the goal that a walk carries along: from this state the run comes to the method's end, and Q holds there -/
def own_G (tb : Tables) (e : Env) (below : List Frame) (s : State) (Q : Option Value → Heap → List Loc → Prop) (kc ks : Nat) (st : State) : Prop :=
  ∃ u o, Steps tb e below st u ∧ u.status = .running ∧ Ended u below o ∧ ∃ v L, o = .returned v ∧ Q v u.heap L ∧ FrameEnd s o u L kc ks
theorem own_in {tb : Tables} {e : Env} {below : List Frame} {s : State} {Q : Option Value → Heap → List Loc → Prop} {kc ks : Nat} {st : State} (h : own_G tb e below s Q kc ks st) :
    ∃ u o, Steps tb e below st u ∧ u.status = .running ∧ Ended u below o ∧ ∃ v L, o = .returned v ∧ Q v u.heap L ∧ FrameEnd s o u L kc ks := h
theorem own_st {tb : Tables} {e : Env} {below : List Frame} {s : State} {Q : Option Value → Heap → List Loc → Prop} {kc ks : Nat} {a b : State} (k : ∀ t, Steps tb e below b t → Steps tb e below a t) (h : own_G tb e below s Q kc ks b) : own_G tb e below s Q kc ks a := by
  obtain ⟨u, o, h1, h2⟩ := h; exact ⟨u, o, k u h1, h2⟩
section OwnRet
variable {p : Program} {l : Launch} {e : Env} {R : Room} {s : State} {m : MethodId} {args : Array Value} {below : List Frame} {meth : Method} {c : Code} {T : State} {locs : List Loc} {cells slots : Nat} {Q : Option Value → Heap → List Loc → Prop} {kc ks : Nat} {pc : Nat} {Ls : Array Slot} {rest : List Value}
theorem own_ret (X : Stand p l e R s m args below meth c T locs cells slots) {v : Option Value} (hv : meth.sig.returnType = none → v = none) (hlk : meth.locks = false) (hc : cells ≤ kc) (hs : slots ≤ ks) (hQ : Q v T.heap locs) {st : State}
    (step : ∀ fs, (∀ (f : JFrame) (acts : List Action), f.method = m → f.locked = none → f.entered = [] → (doReturn e (T.setTop f) acts v).1 = T.setFrames fs) → Steps p.tables e below st (T.setFrames fs)) : own_G p.tables e below s Q kc ks st := by
  obtain ⟨fs, hr, hrun, hended, hW, hsame⟩ := X.leave (v := v) hv hlk
  exact ⟨_, _, step fs hr, hrun, hended, _, _, rfl, hQ, ⟨_, rfl⟩, hW, hsame.mono hc hs⟩
theorem own_retV (X : Stand p l e R s m args below meth c T locs cells slots) (hx : p.tables.exec = Jvm.exec) (hret : meth.sig.returnType = none) (hlk : meth.locks = false) (hd : decode c.code pc = .ok (.return_, 1)) (hc : cells ≤ kc) (hs : slots ≤ ks) (hQ : Q none T.heap locs) : own_G p.tables e below s Q kc ks (T.setTop (mkF m pc Ls [])) :=
  own_ret X (v := none) (fun _ => rfl) hlk hc hs hQ fun _ hr => X.returnOut hx hret hd hr
theorem own_retI {z : Int32} (X : Stand p l e R s m args below meth c T locs cells slots) (hx : p.tables.exec = Jvm.exec) (hret : meth.sig.returnType = some .int) (hlk : meth.locks = false) (hd : decode c.code pc = .ok (.ireturn, 1)) (hc : cells ≤ kc) (hs : slots ≤ ks) (hQ : Q (some (.int z)) T.heap locs) : own_G p.tables e below s Q kc ks (T.setTop (mkF m pc Ls (.int z :: rest))) :=
  own_ret X (v := some (.int z)) (fun h => by rw [hret] at h; cases h) hlk hc hs hQ fun _ hr => retOut X hx hret rfl (Or.inl ⟨rfl, Or.inl rfl, z, rfl⟩) hd hr
theorem own_retJ {z : Int64} (X : Stand p l e R s m args below meth c T locs cells slots) (hx : p.tables.exec = Jvm.exec) (hret : meth.sig.returnType = some .long) (hlk : meth.locks = false) (hd : decode c.code pc = .ok (.lreturn, 1)) (hc : cells ≤ kc) (hs : slots ≤ ks) (hQ : Q (some (.long z)) T.heap locs) : own_G p.tables e below s Q kc ks (T.setTop (mkF m pc Ls (.long z :: rest))) :=
  own_ret X (v := some (.long z)) (fun h => by rw [hret] at h; cases h) hlk hc hs hQ fun _ hr => retOut X hx hret rfl (Or.inr (Or.inl ⟨rfl, rfl, z, rfl⟩)) hd hr
theorem own_retA {ft : FieldType} {w : Value} (ht : ft.isReference = true) (hw : w.isRef = true) (X : Stand p l e R s m args below meth c T locs cells slots) (hx : p.tables.exec = Jvm.exec) (hret : meth.sig.returnType = some ft) (hlk : meth.locks = false) (hd : decode c.code pc = .ok (.areturn, 1)) (hc : cells ≤ kc) (hs : slots ≤ ks) (hQ : Q (some w) T.heap locs) : own_G p.tables e below s Q kc ks (T.setTop (mkF m pc Ls (w :: rest))) :=
  own_ret X (v := some w) (fun h => by rw [hret] at h; cases h) hlk hc hs hQ fun _ hr => retOut X hx hret (by cases ft <;> first | (cases ht; done) | (cases w <;> first | rfl | cases hw)) (Or.inr (Or.inr (Or.inr (Or.inr ⟨rfl, ht, hw⟩)))) hd hr
theorem own_retN {t : FieldType} {z : Int32} (ht : t = .boolean ∨ t = .byte ∨ t = .char ∨ t = .short) (X : Stand p l e R s m args below meth c T locs cells slots) (hx : p.tables.exec = Jvm.exec) (hret : meth.sig.returnType = some t) (hlk : meth.locks = false) (hd : decode c.code pc = .ok (.ireturn, 1)) (hc : cells ≤ kc) (hs : slots ≤ ks) (hQ : Q (some (.int (nar t z))) T.heap locs) : own_G p.tables e below s Q kc ks (T.setTop (mkF m pc Ls (.int z :: rest))) :=
  own_ret X (v := some (.int (nar t z))) (fun h => by rw [hret] at h; cases h) hlk hc hs hQ fun _ hr => retN X hx hret ht hd hr
end OwnRet
def own_b (P : Prop) [Decidable P] : Int32 := if P then 1 else 0
theorem own_bT {P : Prop} [Decidable P] (h : P) : some (Value.int (nar .boolean (1 : Int32))) = some (Value.int (own_b P)) := by rw [own_b, if_pos h]; rfl
theorem own_bF {P : Prop} [Decidable P] (h : ¬ P) : some (Value.int (nar .boolean (0 : Int32))) = some (Value.int (own_b P)) := by rw [own_b, if_neg h]; rfl
theorem own_bEq {P P' : Prop} [Decidable P] [Decidable P'] (h : P ↔ P') : own_b P = own_b P' := by simp only [own_b, h]
/-- a body that writes nothing: what it returns, the heap as it was -/
def own_Qp (r : Option Value) (h0 : Heap) (n0 : Nat) (v : Option Value) (h : Heap) (L : List Loc) : Prop := v = r ∧ Fr n0 L ∧ h = h0
/-- the law's own end: it returns 1, nothing old is written -/
def own_Q0 (n0 : Nat) (v : Option Value) (h : Heap) (L : List Loc) : Prop := v = some (.int 1) ∧ Fr n0 L
theorem own_ord {s : State} {args : Array Value} {t : Term} {a : Addr} {C n d : String} {k : Int32} (ev : t.eval args s none [] s = some (.ref a)) (h : (Jvm.Cond.eq (Term.field t C n d) (Term.int k)).value args s none s [] = some true) : Fld s s.heap a C n d (.int k) := by
  obtain ⟨x, y, e1, e2, -, k2⟩ := cmp_v (Or.inl h)
  obtain rfl : Value.int k = y := Option.some.inj e2
  obtain ⟨z, rfl⟩ := k2
  have q : z = k := by simpa [Jvm.Cond.value, e1, e2] using h
  subst q
  exact Fld.start ((fld_at ev).symm.trans e1)
theorem own_len {s : State} {args : Array Value} {t : Term} {a : Addr} {c : Cell} {ty : FieldType} {n : Int32} (ev : t.eval args s none [] s = some (.ref a)) (A : Arr s s.heap a c ty) (h : (Jvm.Cond.eq (Term.length t) (Term.int n)).value args s none s [] = some true) : c.slots.size < 2 ^ 31 ∧ c.slots.size.toInt32 = n := by
  have q := eqv_i (Term.int_eval n) h
  have f := A.fin (Vm.Alike.refl _)
  have z : c.slots.size < 2147483648 ∧ c.slots.size.toInt32 = n := by simpa [Term.eval, ev, f] using q
  exact z
theorem own_eqr {s : State} {args : Array Value} {X F : Term} {y : Addr} (hF : F.eval args s none [] s = some (.ref y)) (h : (Jvm.Cond.eq X F).value args s none s [] = some true) : X.eval args s none [] s = some (.ref y) := by
  obtain ⟨x, y', e1, e2, k1, k2⟩ := cmp_v (Or.inl h)
  cases hF.symm.trans e2
  have hx : x.isRef = true := k2.2
  have q := gotT (eq_R e1 hF hx rfl) h
  rw [q] at e1; exact e1
theorem own_el {s : State} {args : Array Value} {t : Term} {a : Addr} {c : Cell} {ty : FieldType} {j : Int32} {v : Value} (ev : t.eval args s none [] s = some (.ref a)) (A : Arr s s.heap a c ty) (h : (Term.elem t (Term.int j)).eval args s none [] s = some v) : c.slots[j.toNatClampNeg]? = some v := (elem_in h ev (Term.int_eval j) A.1).2
theorem own_nea {Z : State} {h : Heap} {a b : Addr} {C : String} {a0 : Array Value} {k : Nat} {kc : ClassId} {ty : FieldType} {z : Int32} {vs : List Value} {d : Value} (F : Exa Z h a C) (wi : (Jvm.Cond.instantiable C k).before a0 Z = true) (V : Arv Z h b kc ty z vs d) : a ≠ b := by
  obtain ⟨c, A, -⟩ := V; exact ne_arr F wi A
theorem own_pd0 : parseMethodDescriptor "(IILstowage/engine/Real;)V" = some ⟨[.int, .int, (.object "stowage/engine/Real")], none⟩ := by decide +kernel
theorem own_pd1 : parseMethodDescriptor "()Z" = some ⟨[], some .boolean⟩ := by decide +kernel
theorem own_pd2 : parseMethodDescriptor "(Lstowage/engine/Real;)Lstowage/engine/DeclaredType$Numbers;" = some ⟨[(.object "stowage/engine/Real")], some (.object "stowage/engine/DeclaredType$Numbers")⟩ := by decide +kernel
theorem own_b0 {P : Prop} [Decidable P] (h : own_b P = 0) : ¬ P := fun q => by rw [own_b, if_pos q] at h; exact absurd h (by decide)
theorem own_b1 {P : Prop} [Decidable P] (h : ¬ own_b P = 0) : P := Decidable.not_not.mp fun q => h (by rw [own_b, if_neg q])
theorem own_pn0 : plainName "java/lang/Record" = true := by first | (simp [plainName, overriddenIn]; done) | decide +kernel
theorem own_d2_0 : decode jdk_30_method_1_code 0 = .ok (.aload_n 0, 1) := by decide +kernel
theorem own_d2_1 : decode jdk_30_method_1_code 1 = .ok (.invokespecial 1, 3) := by decide +kernel
theorem own_d2_4 : decode jdk_30_method_1_code 4 = .ok (.return_, 1) := by decide +kernel
theorem own_ef2 (m : MethodId) (a1 : Addr) : entryFrame m #[(.ref a1)] 1 = mkF m 0 #[.val (.ref a1)] [] := by first | (simp [entryFrame, mkF, argsToLocals, Value.category]; done) | rfl
set_option maxRecDepth 65536 in
set_option maxHeartbeats 40000000 in
theorem own_rm2 (l : Launch) (Z : State) (a0 : Array Value) (hw : ∀ d ∈ tables_1, d.before a0 Z = true) (ws : List Jvm.Cond) (a1 : Addr) (h0 : Heap) (n0 : Nat) (Z0 : n0 ≤ h0.size)  :
    MetFree l (⟨"java/lang/Record", "<init>", "()V"⟩ : MethodName) (head1 (Jvm.Cond.code (⟨"java/lang/Record", "<init>", "()V"⟩ : MethodName) jdk_30_method_1_code 1 none :: ws) ({ frames := 1, cells := 0, slots := 0, locals := 12 } : Room)) (fun a U => a = #[(.ref a1)] ∧ Z.Warmed39 U.vm ∧ U.heap = h0) (fun _ _ _ _ _ => True) (fun _ U o U' => ∃ v L, o = .returned v ∧ own_Qp none h0 n0 v U'.heap L ∧ FrameEnd U o U' L ({ frames := 1, cells := 0, slots := 0, locals := 12 } : Room).cells ({ frames := 1, cells := 0, slots := 0, locals := 12 } : Room).slots) := by
  refine MetFree.of_bodySF (plainFor_of_name own_pn0) hisR ?_
  intro p e s m args below meth c s₁ Bd hml0 hP hK
  obtain ⟨rfl, hZ, hh⟩ := hP
  have hx := Bd.exec
  have hby := Bd.bytes
  have hml : c.maxLocals = 1 := hml0
  have hown : s.vm.findClass "java/lang/Record" = some m.cls := findClass_of_methodNamed Bd.named
  have hnm := (name_of_methodNamed Bd.named Bd.method).1
  have X0 : Stand p l e ({ frames := 1, cells := 0, slots := 0, locals := 12 } : Room) s m #[(.ref a1)] below meth c s₁ [] 0 0 := Stand.of_body Bd
  have e0 : s₁.heap = h0 := by rw [← hh, Bd.state]; rfl
  have N0 := Fr.nil n0
  refine own_in (Q := own_Qp none h0 n0) ?_
  rw [own_ef2]
  show own_G _ _ _ _ _ _ _ (s₁.setTop (mkF m 0 #[.val (.ref a1)] []))
  refine own_st (fun t k => XS.aloadN X0.here hx rfl (hb hby own_d2_0) rfl rfl k) ?_
  show own_G _ _ _ _ _ _ _ (s₁.setTop (mkF m 1 #[.val (.ref a1)] [(.ref a1)]))
  obtain ⟨T1, X1, e1, st1⟩ := initO X0 hx hZ hown (hw _ (List.mem_of_getElem? (i := 11) rfl)) (hw _ (List.mem_of_getElem? (i := 12) rfl)) (hw _ (List.mem_of_getElem? (i := 13) rfl)) e0 (g := (mkF m 1 #[.val (.ref a1)] [(.ref a1)])) rfl (by rw [hml]; rfl) rfl (hb hby own_d2_1) (by decide) (W := 0) (by show 2 * 0 + _ ≤ _; exact Nat.le_of_eq rfl) (by decide)
  refine own_st (fun t k => st1 t k) ?_
  show own_G _ _ _ _ _ _ _ (T1.setTop (mkF m 4 #[.val (.ref a1)] []))
  exact own_retV X1 hx Bd.returns (BodyLoose.notSynchronized Bd) (hb hby own_d2_4) (by decide) (by decide) ⟨rfl, N0, e1⟩
theorem own_pd3 : parseMethodDescriptor "()V" = some ⟨[], none⟩ := by decide +kernel
def own_Q1 (Z : State) (a1 : Addr) (p1 p2 : Int32) (r1 : Addr) (h0 : Heap) (n0 : Nat) (v : Option Value) (h : Heap) (L : List Loc) : Prop := v = none ∧ Fr n0 L ∧ Keep h0 h [a1] ∧ Exa Z h a1 "stowage/engine/DeclaredType$Numbers" ∧ Fld Z h a1 "stowage/engine/DeclaredType$Numbers" "integerDigits" "I" (.int p1) ∧ Fld Z h a1 "stowage/engine/DeclaredType$Numbers" "fractionDigits" "I" (.int p2) ∧ Fld Z h a1 "stowage/engine/DeclaredType$Numbers" "real" "Lstowage/engine/Real;" (.ref r1)
theorem own_pn1 : plainName "stowage/engine/DeclaredType$Numbers" = true := by first | (simp [plainName, overriddenIn]; done) | decide +kernel
theorem own_d1_0 : decode prog_29_method_1_code 0 = .ok (.aload_n 0, 1) := by decide +kernel
theorem own_d1_1 : decode prog_29_method_1_code 1 = .ok (.invokespecial 3, 3) := by decide +kernel
theorem own_d1_4 : decode prog_29_method_1_code 4 = .ok (.aload_n 0, 1) := by decide +kernel
theorem own_d1_5 : decode prog_29_method_1_code 5 = .ok (.iload_n 1, 1) := by decide +kernel
theorem own_d1_6 : decode prog_29_method_1_code 6 = .ok (.putfield 9, 3) := by decide +kernel
theorem own_d1_9 : decode prog_29_method_1_code 9 = .ok (.aload_n 0, 1) := by decide +kernel
theorem own_d1_10 : decode prog_29_method_1_code 10 = .ok (.iload_n 2, 1) := by decide +kernel
theorem own_d1_11 : decode prog_29_method_1_code 11 = .ok (.putfield 15, 3) := by decide +kernel
theorem own_d1_14 : decode prog_29_method_1_code 14 = .ok (.aload_n 0, 1) := by decide +kernel
theorem own_d1_15 : decode prog_29_method_1_code 15 = .ok (.aload_n 3, 1) := by decide +kernel
theorem own_d1_16 : decode prog_29_method_1_code 16 = .ok (.putfield 18, 3) := by decide +kernel
theorem own_d1_19 : decode prog_29_method_1_code 19 = .ok (.return_, 1) := by decide +kernel
theorem own_ef1 (m : MethodId) (a1 : Addr) (p1 : Int32) (p2 : Int32) (r1 : Addr) : entryFrame m #[(.ref a1), (.int p1), (.int p2), (.ref r1)] 4 = mkF m 0 #[.val (.ref a1), .val (.int p1), .val (.int p2), .val (.ref r1)] [] := by first | (simp [entryFrame, mkF, argsToLocals, Value.category]; done) | rfl
set_option maxRecDepth 65536 in
set_option maxHeartbeats 40000000 in
theorem own_rm1 (l : Launch) (Z : State) (a0 : Array Value) (hw : ∀ d ∈ tables_1, d.before a0 Z = true) (ws : List Jvm.Cond) (a1 : Addr) (p1 p2 : Int32) (r1 : Addr) (h0 : Heap) (n0 : Nat) (Z0 : n0 ≤ h0.size) (E1 : Exa Z h0 a1 "stowage/engine/DeclaredType$Numbers") (F_integerDigits : Fld Z h0 a1 "stowage/engine/DeclaredType$Numbers" "integerDigits" "I" (.int 0)) (F_fractionDigits : Fld Z h0 a1 "stowage/engine/DeclaredType$Numbers" "fractionDigits" "I" (.int 0)) (F_real : Fld Z h0 a1 "stowage/engine/DeclaredType$Numbers" "real" "Lstowage/engine/Real;" .null) (g1 : n0 ≤ a1) :
    MetFree l (⟨"stowage/engine/DeclaredType$Numbers", "<init>", "(IILstowage/engine/Real;)V"⟩ : MethodName) (head1 (Jvm.Cond.code (⟨"stowage/engine/DeclaredType$Numbers", "<init>", "(IILstowage/engine/Real;)V"⟩ : MethodName) prog_29_method_1_code 4 none :: ws) ({ frames := 2, cells := 0, slots := 0, locals := 24 } : Room)) (fun a U => a = #[(.ref a1), (.int p1), (.int p2), (.ref r1)] ∧ Z.Warmed39 U.vm ∧ U.heap = h0) (fun _ _ _ _ _ => True) (fun _ U o U' => ∃ v L, o = .returned v ∧ own_Q1 Z a1 p1 p2 r1 h0 n0 v U'.heap L ∧ FrameEnd U o U' L ({ frames := 2, cells := 0, slots := 0, locals := 24 } : Room).cells ({ frames := 2, cells := 0, slots := 0, locals := 24 } : Room).slots) := by
  refine MetFree.of_bodySF (plainFor_of_name own_pn1) hisR ?_
  intro p e s m args below meth c s₁ Bd hml0 hP hK
  obtain ⟨rfl, hZ, hh⟩ := hP
  have hx := Bd.exec
  have hby := Bd.bytes
  have hml : c.maxLocals = 4 := hml0
  have hown : s.vm.findClass "stowage/engine/DeclaredType$Numbers" = some m.cls := findClass_of_methodNamed Bd.named
  have hnm := (name_of_methodNamed Bd.named Bd.method).1
  have X0 : Stand p l e ({ frames := 2, cells := 0, slots := 0, locals := 24 } : Room) s m #[(.ref a1), (.int p1), (.int p2), (.ref r1)] below meth c s₁ [] 0 0 := Stand.of_body Bd
  have e0 : s₁.heap = h0 := by rw [← hh, Bd.state]; rfl
  have N0 := Fr.nil n0
  refine own_in (Q := own_Q1 Z a1 p1 p2 r1 h0 n0) ?_
  rw [own_ef1]
  show own_G _ _ _ _ _ _ _ (s₁.setTop (mkF m 0 #[.val (.ref a1), .val (.int p1), .val (.int p2), .val (.ref r1)] []))
  refine own_st (fun t k => XS.aloadN X0.here hx rfl (hb hby own_d1_0) rfl rfl k) ?_
  show own_G _ _ _ _ _ _ _ (s₁.setTop (mkF m 1 #[.val (.ref a1), .val (.int p1), .val (.int p2), .val (.ref r1)] [(.ref a1)]))
  obtain ⟨_, _, ⟨T2, L2, k2, n2⟩, -, X2, ⟨Lc2, hQ2, l2, y2, z2⟩, st2⟩ := X0.specialBack hx (y := (⟨"java/lang/Record", "<init>", "()V"⟩ : MethodName)) rfl hown (mvT hZ (hw _ (List.mem_of_getElem? (i := 6) rfl))) (mvT hZ (hw _ (List.mem_of_getElem? (i := 7) rfl))) (mvT hZ (hw _ (List.mem_of_getElem? (i := 10) rfl))) (by decide) (backOf (W := 0) (own_rm2 l Z a0 hw [] a1 h0 n0 Z0) hZ (hw _ (List.mem_of_getElem? (i := 10) rfl)) (hw _ (List.mem_of_getElem? (i := 9) rfl)) (by decide) (by decide)) (g := (mkF m 1 #[.val (.ref a1), .val (.int p1), .val (.int p2), .val (.ref r1)] [(.ref a1)])) rfl (by rw [hml]; rfl) (Steps.refl _) (a := a1) (argsL := []) (rest := []) (lenOf own_pd3 rfl) rfl (by show 2 * 0 + _ ≤ _; exact Nat.le_of_eq rfl) (hb hby own_d1_1) (fun _ _ => ⟨rfl, e0, (by decide : 0 + 0 ≤ _), (by decide : 0 + 0 ≤ _)⟩)
  dsimp only [Pt.U, Pt.locs, Pt.cells, Pt.slots] at X2 l2 y2 z2 st2 hQ2
  subst l2 y2 z2
  obtain ⟨rfl, N2q, e2⟩ := hQ2
  have N2 := Fr.app N0 N2q
  refine own_st (fun t k => st2.trans k) ?_
  show own_G _ _ _ _ _ _ _ (T2.setTop (mkF m 4 #[.val (.ref a1), .val (.int p1), .val (.int p2), .val (.ref r1)] []))
  refine own_st (fun t k => XS.aloadN X2.here hx rfl (hb hby own_d1_4) rfl rfl k) ?_
  show own_G _ _ _ _ _ _ _ (T2.setTop (mkF m 5 #[.val (.ref a1), .val (.int p1), .val (.int p2), .val (.ref r1)] [(.ref a1)]))
  refine own_st (fun t k => XS.iloadN X2.here hx rfl (hb hby own_d1_5) rfl k) ?_
  show own_G _ _ _ _ _ _ _ (T2.setTop (mkF m 6 #[.val (.ref a1), .val (.int p1), .val (.int p2), .val (.ref r1)] [(.int p1), (.ref a1)]))
  obtain ⟨T3, h3, X3, e3, W3, st3⟩ := putF X2 hx hZ hown (host := "") (Or.inl (hw _ (List.mem_of_getElem? (i := 14) rfl))) Via.refl e2 F_integerDigits E1 (Or.inr ⟨(hw _ (List.mem_of_getElem? (i := 15) rfl)), rfl, hnm⟩) (hw _ (List.mem_of_getElem? (i := 1) rfl)) (ty := .int) (by decide) rfl rfl (g := (mkF m 6 #[.val (.ref a1), .val (.int p1), .val (.int p2), .val (.ref r1)] [(.int p1), (.ref a1)])) rfl rfl (hb hby own_d1_6)
  have N3 := Fr.snoc X3 N2 g1
  refine own_st (fun t k => st3 t k) ?_
  show own_G _ _ _ _ _ _ _ (T3.setTop (mkF m 9 #[.val (.ref a1), .val (.int p1), .val (.int p2), .val (.ref r1)] []))
  have E_4 := E1.wr W3
  have fintegerDigits_5 := F_integerDigits.same W3
  have ffractionDigits_6 := F_fractionDigits.other W3 (Or.inr (slot_ne (Or.inr (hw _ (List.mem_of_getElem? (i := 17) rfl))) (Or.inr (hw _ (List.mem_of_getElem? (i := 15) rfl))) (by decide) (t := .int) (t' := .int) (by decide) (by decide)))
  have freal_7 := F_real.other W3 (Or.inr (slot_ne (Or.inr (hw _ (List.mem_of_getElem? (i := 19) rfl))) (Or.inr (hw _ (List.mem_of_getElem? (i := 15) rfl))) (by decide) (t := (.object "stowage/engine/Real")) (t' := .int) (by decide) (by decide)))
  have Zz8 : n0 ≤ h3.size := Nat.le_trans Z0 (Keep.of_wr W3).1
  have Kk9 := (Keep.refl h0 [a1]).wr W3 (Or.inl (List.mem_of_getElem? (i := 0) rfl))
  refine own_st (fun t k => XS.aloadN X3.here hx rfl (hb hby own_d1_9) rfl rfl k) ?_
  show own_G _ _ _ _ _ _ _ (T3.setTop (mkF m 10 #[.val (.ref a1), .val (.int p1), .val (.int p2), .val (.ref r1)] [(.ref a1)]))
  refine own_st (fun t k => XS.iloadN X3.here hx rfl (hb hby own_d1_10) rfl k) ?_
  show own_G _ _ _ _ _ _ _ (T3.setTop (mkF m 11 #[.val (.ref a1), .val (.int p1), .val (.int p2), .val (.ref r1)] [(.int p2), (.ref a1)]))
  obtain ⟨T10, h10, X10, e10, W10, st10⟩ := putF X3 hx hZ hown (host := "") (Or.inl (hw _ (List.mem_of_getElem? (i := 16) rfl))) Via.refl e3 ffractionDigits_6 E_4 (Or.inr ⟨(hw _ (List.mem_of_getElem? (i := 17) rfl)), rfl, hnm⟩) (hw _ (List.mem_of_getElem? (i := 1) rfl)) (ty := .int) (by decide) rfl rfl (g := (mkF m 11 #[.val (.ref a1), .val (.int p1), .val (.int p2), .val (.ref r1)] [(.int p2), (.ref a1)])) rfl rfl (hb hby own_d1_11)
  have N10 := Fr.snoc X10 N3 g1
  refine own_st (fun t k => st10 t k) ?_
  show own_G _ _ _ _ _ _ _ (T10.setTop (mkF m 14 #[.val (.ref a1), .val (.int p1), .val (.int p2), .val (.ref r1)] []))
  have E_11 := E_4.wr W10
  have fintegerDigits_12 := fintegerDigits_5.other W10 (Or.inr (slot_ne (Or.inr (hw _ (List.mem_of_getElem? (i := 15) rfl))) (Or.inr (hw _ (List.mem_of_getElem? (i := 17) rfl))) (by decide) (t := .int) (t' := .int) (by decide) (by decide)))
  have ffractionDigits_13 := ffractionDigits_6.same W10
  have freal_14 := freal_7.other W10 (Or.inr (slot_ne (Or.inr (hw _ (List.mem_of_getElem? (i := 19) rfl))) (Or.inr (hw _ (List.mem_of_getElem? (i := 17) rfl))) (by decide) (t := (.object "stowage/engine/Real")) (t' := .int) (by decide) (by decide)))
  have Zz15 : n0 ≤ h10.size := Nat.le_trans Zz8 (Keep.of_wr W10).1
  have Kk16 := Kk9.wr W10 (Or.inl (List.mem_of_getElem? (i := 0) rfl))
  refine own_st (fun t k => XS.aloadN X10.here hx rfl (hb hby own_d1_14) rfl rfl k) ?_
  show own_G _ _ _ _ _ _ _ (T10.setTop (mkF m 15 #[.val (.ref a1), .val (.int p1), .val (.int p2), .val (.ref r1)] [(.ref a1)]))
  refine own_st (fun t k => XS.aloadN X10.here hx rfl (hb hby own_d1_15) rfl rfl k) ?_
  show own_G _ _ _ _ _ _ _ (T10.setTop (mkF m 16 #[.val (.ref a1), .val (.int p1), .val (.int p2), .val (.ref r1)] [(.ref r1), (.ref a1)]))
  obtain ⟨T17, h17, X17, e17, W17, st17⟩ := putF X10 hx hZ hown (host := "") (Or.inl (hw _ (List.mem_of_getElem? (i := 18) rfl))) Via.refl e10 freal_14 E_11 (Or.inr ⟨(hw _ (List.mem_of_getElem? (i := 19) rfl)), rfl, hnm⟩) (hw _ (List.mem_of_getElem? (i := 1) rfl)) (ty := (.object "stowage/engine/Real")) (by decide) rfl rfl (g := (mkF m 16 #[.val (.ref a1), .val (.int p1), .val (.int p2), .val (.ref r1)] [(.ref r1), (.ref a1)])) rfl rfl (hb hby own_d1_16)
  have N17 := Fr.snoc X17 N10 g1
  refine own_st (fun t k => st17 t k) ?_
  show own_G _ _ _ _ _ _ _ (T17.setTop (mkF m 19 #[.val (.ref a1), .val (.int p1), .val (.int p2), .val (.ref r1)] []))
  have E_18 := E_11.wr W17
  have fintegerDigits_19 := fintegerDigits_12.other W17 (Or.inr (slot_ne (Or.inr (hw _ (List.mem_of_getElem? (i := 15) rfl))) (Or.inr (hw _ (List.mem_of_getElem? (i := 19) rfl))) (by decide) (t := .int) (t' := (.object "stowage/engine/Real")) (by decide) (by decide)))
  have ffractionDigits_20 := ffractionDigits_13.other W17 (Or.inr (slot_ne (Or.inr (hw _ (List.mem_of_getElem? (i := 17) rfl))) (Or.inr (hw _ (List.mem_of_getElem? (i := 19) rfl))) (by decide) (t := .int) (t' := (.object "stowage/engine/Real")) (by decide) (by decide)))
  have freal_21 := freal_14.same W17
  have Zz22 : n0 ≤ h17.size := Nat.le_trans Zz15 (Keep.of_wr W17).1
  have Kk23 := Kk16.wr W17 (Or.inl (List.mem_of_getElem? (i := 0) rfl))
  subst e17
  exact own_retV X17 hx Bd.returns (BodyLoose.notSynchronized Bd) (hb hby own_d1_19) (by decide) (by decide) ⟨rfl, N17, Kk23, E_18, fintegerDigits_19, ffractionDigits_20, freal_21⟩
def own_Q3 (Z : State) (a1 : Addr) (p1 p2 : Int32) (h0 : Heap) (n0 : Nat) (v : Option Value) (h : Heap) (L : List Loc) : Prop := v = none ∧ Fr n0 L ∧ Keep h0 h [a1] ∧ Exa Z h a1 "stowage/engine/DeclaredType$Numbers" ∧ Fld Z h a1 "stowage/engine/DeclaredType$Numbers" "integerDigits" "I" (.int p1) ∧ Fld Z h a1 "stowage/engine/DeclaredType$Numbers" "fractionDigits" "I" (.int p2) ∧ Fld Z h a1 "stowage/engine/DeclaredType$Numbers" "real" "Lstowage/engine/Real;" .null
theorem own_d3_0 : decode prog_29_method_1_code 0 = .ok (.aload_n 0, 1) := by decide +kernel
theorem own_d3_1 : decode prog_29_method_1_code 1 = .ok (.invokespecial 3, 3) := by decide +kernel
theorem own_d3_4 : decode prog_29_method_1_code 4 = .ok (.aload_n 0, 1) := by decide +kernel
theorem own_d3_5 : decode prog_29_method_1_code 5 = .ok (.iload_n 1, 1) := by decide +kernel
theorem own_d3_6 : decode prog_29_method_1_code 6 = .ok (.putfield 9, 3) := by decide +kernel
theorem own_d3_9 : decode prog_29_method_1_code 9 = .ok (.aload_n 0, 1) := by decide +kernel
theorem own_d3_10 : decode prog_29_method_1_code 10 = .ok (.iload_n 2, 1) := by decide +kernel
theorem own_d3_11 : decode prog_29_method_1_code 11 = .ok (.putfield 15, 3) := by decide +kernel
theorem own_d3_14 : decode prog_29_method_1_code 14 = .ok (.aload_n 0, 1) := by decide +kernel
theorem own_d3_15 : decode prog_29_method_1_code 15 = .ok (.aload_n 3, 1) := by decide +kernel
theorem own_d3_16 : decode prog_29_method_1_code 16 = .ok (.putfield 18, 3) := by decide +kernel
theorem own_d3_19 : decode prog_29_method_1_code 19 = .ok (.return_, 1) := by decide +kernel
theorem own_ef3 (m : MethodId) (a1 : Addr) (p1 : Int32) (p2 : Int32) : entryFrame m #[(.ref a1), (.int p1), (.int p2), .null] 4 = mkF m 0 #[.val (.ref a1), .val (.int p1), .val (.int p2), .val .null] [] := by first | (simp [entryFrame, mkF, argsToLocals, Value.category]; done) | rfl
set_option maxRecDepth 65536 in
set_option maxHeartbeats 40000000 in
theorem own_rm3 (l : Launch) (Z : State) (a0 : Array Value) (hw : ∀ d ∈ tables_1, d.before a0 Z = true) (ws : List Jvm.Cond) (a1 : Addr) (p1 p2 : Int32) (h0 : Heap) (n0 : Nat) (Z0 : n0 ≤ h0.size) (E1 : Exa Z h0 a1 "stowage/engine/DeclaredType$Numbers") (F_integerDigits : Fld Z h0 a1 "stowage/engine/DeclaredType$Numbers" "integerDigits" "I" (.int 0)) (F_fractionDigits : Fld Z h0 a1 "stowage/engine/DeclaredType$Numbers" "fractionDigits" "I" (.int 0)) (F_real : Fld Z h0 a1 "stowage/engine/DeclaredType$Numbers" "real" "Lstowage/engine/Real;" .null) (g1 : n0 ≤ a1) :
    MetFree l (⟨"stowage/engine/DeclaredType$Numbers", "<init>", "(IILstowage/engine/Real;)V"⟩ : MethodName) (head1 (Jvm.Cond.code (⟨"stowage/engine/DeclaredType$Numbers", "<init>", "(IILstowage/engine/Real;)V"⟩ : MethodName) prog_29_method_1_code 4 none :: ws) ({ frames := 2, cells := 0, slots := 0, locals := 24 } : Room)) (fun a U => a = #[(.ref a1), (.int p1), (.int p2), .null] ∧ Z.Warmed39 U.vm ∧ U.heap = h0) (fun _ _ _ _ _ => True) (fun _ U o U' => ∃ v L, o = .returned v ∧ own_Q3 Z a1 p1 p2 h0 n0 v U'.heap L ∧ FrameEnd U o U' L ({ frames := 2, cells := 0, slots := 0, locals := 24 } : Room).cells ({ frames := 2, cells := 0, slots := 0, locals := 24 } : Room).slots) := by
  refine MetFree.of_bodySF (plainFor_of_name own_pn1) hisR ?_
  intro p e s m args below meth c s₁ Bd hml0 hP hK
  obtain ⟨rfl, hZ, hh⟩ := hP
  have hx := Bd.exec
  have hby := Bd.bytes
  have hml : c.maxLocals = 4 := hml0
  have hown : s.vm.findClass "stowage/engine/DeclaredType$Numbers" = some m.cls := findClass_of_methodNamed Bd.named
  have hnm := (name_of_methodNamed Bd.named Bd.method).1
  have X0 : Stand p l e ({ frames := 2, cells := 0, slots := 0, locals := 24 } : Room) s m #[(.ref a1), (.int p1), (.int p2), .null] below meth c s₁ [] 0 0 := Stand.of_body Bd
  have e0 : s₁.heap = h0 := by rw [← hh, Bd.state]; rfl
  have N0 := Fr.nil n0
  refine own_in (Q := own_Q3 Z a1 p1 p2 h0 n0) ?_
  rw [own_ef3]
  show own_G _ _ _ _ _ _ _ (s₁.setTop (mkF m 0 #[.val (.ref a1), .val (.int p1), .val (.int p2), .val .null] []))
  refine own_st (fun t k => XS.aloadN X0.here hx rfl (hb hby own_d3_0) rfl rfl k) ?_
  show own_G _ _ _ _ _ _ _ (s₁.setTop (mkF m 1 #[.val (.ref a1), .val (.int p1), .val (.int p2), .val .null] [(.ref a1)]))
  obtain ⟨_, _, ⟨T24, L24, k24, n24⟩, -, X24, ⟨Lc24, hQ24, l24, y24, z24⟩, st24⟩ := X0.specialBack hx (y := (⟨"java/lang/Record", "<init>", "()V"⟩ : MethodName)) rfl hown (mvT hZ (hw _ (List.mem_of_getElem? (i := 6) rfl))) (mvT hZ (hw _ (List.mem_of_getElem? (i := 7) rfl))) (mvT hZ (hw _ (List.mem_of_getElem? (i := 10) rfl))) (by decide) (backOf (W := 0) (own_rm2 l Z a0 hw [] a1 h0 n0 Z0) hZ (hw _ (List.mem_of_getElem? (i := 10) rfl)) (hw _ (List.mem_of_getElem? (i := 9) rfl)) (by decide) (by decide)) (g := (mkF m 1 #[.val (.ref a1), .val (.int p1), .val (.int p2), .val .null] [(.ref a1)])) rfl (by rw [hml]; rfl) (Steps.refl _) (a := a1) (argsL := []) (rest := []) (lenOf own_pd3 rfl) rfl (by show 2 * 0 + _ ≤ _; exact Nat.le_of_eq rfl) (hb hby own_d3_1) (fun _ _ => ⟨rfl, e0, (by decide : 0 + 0 ≤ _), (by decide : 0 + 0 ≤ _)⟩)
  dsimp only [Pt.U, Pt.locs, Pt.cells, Pt.slots] at X24 l24 y24 z24 st24 hQ24
  subst l24 y24 z24
  obtain ⟨rfl, N24q, e24⟩ := hQ24
  have N24 := Fr.app N0 N24q
  refine own_st (fun t k => st24.trans k) ?_
  show own_G _ _ _ _ _ _ _ (T24.setTop (mkF m 4 #[.val (.ref a1), .val (.int p1), .val (.int p2), .val .null] []))
  refine own_st (fun t k => XS.aloadN X24.here hx rfl (hb hby own_d3_4) rfl rfl k) ?_
  show own_G _ _ _ _ _ _ _ (T24.setTop (mkF m 5 #[.val (.ref a1), .val (.int p1), .val (.int p2), .val .null] [(.ref a1)]))
  refine own_st (fun t k => XS.iloadN X24.here hx rfl (hb hby own_d3_5) rfl k) ?_
  show own_G _ _ _ _ _ _ _ (T24.setTop (mkF m 6 #[.val (.ref a1), .val (.int p1), .val (.int p2), .val .null] [(.int p1), (.ref a1)]))
  obtain ⟨T25, h25, X25, e25, W25, st25⟩ := putF X24 hx hZ hown (host := "") (Or.inl (hw _ (List.mem_of_getElem? (i := 14) rfl))) Via.refl e24 F_integerDigits E1 (Or.inr ⟨(hw _ (List.mem_of_getElem? (i := 15) rfl)), rfl, hnm⟩) (hw _ (List.mem_of_getElem? (i := 1) rfl)) (ty := .int) (by decide) rfl rfl (g := (mkF m 6 #[.val (.ref a1), .val (.int p1), .val (.int p2), .val .null] [(.int p1), (.ref a1)])) rfl rfl (hb hby own_d3_6)
  have N25 := Fr.snoc X25 N24 g1
  refine own_st (fun t k => st25 t k) ?_
  show own_G _ _ _ _ _ _ _ (T25.setTop (mkF m 9 #[.val (.ref a1), .val (.int p1), .val (.int p2), .val .null] []))
  have E_26 := E1.wr W25
  have fintegerDigits_27 := F_integerDigits.same W25
  have ffractionDigits_28 := F_fractionDigits.other W25 (Or.inr (slot_ne (Or.inr (hw _ (List.mem_of_getElem? (i := 17) rfl))) (Or.inr (hw _ (List.mem_of_getElem? (i := 15) rfl))) (by decide) (t := .int) (t' := .int) (by decide) (by decide)))
  have freal_29 := F_real.other W25 (Or.inr (slot_ne (Or.inr (hw _ (List.mem_of_getElem? (i := 19) rfl))) (Or.inr (hw _ (List.mem_of_getElem? (i := 15) rfl))) (by decide) (t := (.object "stowage/engine/Real")) (t' := .int) (by decide) (by decide)))
  have Zz30 : n0 ≤ h25.size := Nat.le_trans Z0 (Keep.of_wr W25).1
  have Kk31 := (Keep.refl h0 [a1]).wr W25 (Or.inl (List.mem_of_getElem? (i := 0) rfl))
  refine own_st (fun t k => XS.aloadN X25.here hx rfl (hb hby own_d3_9) rfl rfl k) ?_
  show own_G _ _ _ _ _ _ _ (T25.setTop (mkF m 10 #[.val (.ref a1), .val (.int p1), .val (.int p2), .val .null] [(.ref a1)]))
  refine own_st (fun t k => XS.iloadN X25.here hx rfl (hb hby own_d3_10) rfl k) ?_
  show own_G _ _ _ _ _ _ _ (T25.setTop (mkF m 11 #[.val (.ref a1), .val (.int p1), .val (.int p2), .val .null] [(.int p2), (.ref a1)]))
  obtain ⟨T32, h32, X32, e32, W32, st32⟩ := putF X25 hx hZ hown (host := "") (Or.inl (hw _ (List.mem_of_getElem? (i := 16) rfl))) Via.refl e25 ffractionDigits_28 E_26 (Or.inr ⟨(hw _ (List.mem_of_getElem? (i := 17) rfl)), rfl, hnm⟩) (hw _ (List.mem_of_getElem? (i := 1) rfl)) (ty := .int) (by decide) rfl rfl (g := (mkF m 11 #[.val (.ref a1), .val (.int p1), .val (.int p2), .val .null] [(.int p2), (.ref a1)])) rfl rfl (hb hby own_d3_11)
  have N32 := Fr.snoc X32 N25 g1
  refine own_st (fun t k => st32 t k) ?_
  show own_G _ _ _ _ _ _ _ (T32.setTop (mkF m 14 #[.val (.ref a1), .val (.int p1), .val (.int p2), .val .null] []))
  have E_33 := E_26.wr W32
  have fintegerDigits_34 := fintegerDigits_27.other W32 (Or.inr (slot_ne (Or.inr (hw _ (List.mem_of_getElem? (i := 15) rfl))) (Or.inr (hw _ (List.mem_of_getElem? (i := 17) rfl))) (by decide) (t := .int) (t' := .int) (by decide) (by decide)))
  have ffractionDigits_35 := ffractionDigits_28.same W32
  have freal_36 := freal_29.other W32 (Or.inr (slot_ne (Or.inr (hw _ (List.mem_of_getElem? (i := 19) rfl))) (Or.inr (hw _ (List.mem_of_getElem? (i := 17) rfl))) (by decide) (t := (.object "stowage/engine/Real")) (t' := .int) (by decide) (by decide)))
  have Zz37 : n0 ≤ h32.size := Nat.le_trans Zz30 (Keep.of_wr W32).1
  have Kk38 := Kk31.wr W32 (Or.inl (List.mem_of_getElem? (i := 0) rfl))
  refine own_st (fun t k => XS.aloadN X32.here hx rfl (hb hby own_d3_14) rfl rfl k) ?_
  show own_G _ _ _ _ _ _ _ (T32.setTop (mkF m 15 #[.val (.ref a1), .val (.int p1), .val (.int p2), .val .null] [(.ref a1)]))
  refine own_st (fun t k => XS.aloadN X32.here hx rfl (hb hby own_d3_15) rfl rfl k) ?_
  show own_G _ _ _ _ _ _ _ (T32.setTop (mkF m 16 #[.val (.ref a1), .val (.int p1), .val (.int p2), .val .null] [.null, (.ref a1)]))
  obtain ⟨T39, h39, X39, e39, W39, st39⟩ := putF X32 hx hZ hown (host := "") (Or.inl (hw _ (List.mem_of_getElem? (i := 18) rfl))) Via.refl e32 freal_36 E_33 (Or.inr ⟨(hw _ (List.mem_of_getElem? (i := 19) rfl)), rfl, hnm⟩) (hw _ (List.mem_of_getElem? (i := 1) rfl)) (ty := (.object "stowage/engine/Real")) (by decide) rfl rfl (g := (mkF m 16 #[.val (.ref a1), .val (.int p1), .val (.int p2), .val .null] [.null, (.ref a1)])) rfl rfl (hb hby own_d3_16)
  have N39 := Fr.snoc X39 N32 g1
  refine own_st (fun t k => st39 t k) ?_
  show own_G _ _ _ _ _ _ _ (T39.setTop (mkF m 19 #[.val (.ref a1), .val (.int p1), .val (.int p2), .val .null] []))
  have E_40 := E_33.wr W39
  have fintegerDigits_41 := fintegerDigits_34.other W39 (Or.inr (slot_ne (Or.inr (hw _ (List.mem_of_getElem? (i := 15) rfl))) (Or.inr (hw _ (List.mem_of_getElem? (i := 19) rfl))) (by decide) (t := .int) (t' := (.object "stowage/engine/Real")) (by decide) (by decide)))
  have ffractionDigits_42 := ffractionDigits_35.other W39 (Or.inr (slot_ne (Or.inr (hw _ (List.mem_of_getElem? (i := 17) rfl))) (Or.inr (hw _ (List.mem_of_getElem? (i := 19) rfl))) (by decide) (t := .int) (t' := (.object "stowage/engine/Real")) (by decide) (by decide)))
  have freal_43 := freal_36.same W39
  have Zz44 : n0 ≤ h39.size := Nat.le_trans Zz37 (Keep.of_wr W39).1
  have Kk45 := Kk38.wr W39 (Or.inl (List.mem_of_getElem? (i := 0) rfl))
  subst e39
  exact own_retV X39 hx Bd.returns (BodyLoose.notSynchronized Bd) (hb hby own_d3_19) (by decide) (by decide) ⟨rfl, N39, Kk45, E_40, fintegerDigits_41, ffractionDigits_42, freal_43⟩
theorem own_d4_0 : decode prog_29_method_4_code 0 = .ok (.aload_n 0, 1) := by decide +kernel
theorem own_d4_1 : decode prog_29_method_4_code 1 = .ok (.getfield 9, 3) := by decide +kernel
theorem own_d4_4 : decode prog_29_method_4_code 4 = .ok (.bipush 19, 2) := by decide +kernel
theorem own_d4_6 : decode prog_29_method_4_code 6 = .ok (.if_icmp .lt 21, 3) := by decide +kernel
theorem own_d4_9 : decode prog_29_method_4_code 9 = .ok (.aload_n 0, 1) := by decide +kernel
theorem own_d4_10 : decode prog_29_method_4_code 10 = .ok (.getfield 15, 3) := by decide +kernel
theorem own_d4_13 : decode prog_29_method_4_code 13 = .ok (.ifCond .lt 14, 3) := by decide +kernel
theorem own_d4_16 : decode prog_29_method_4_code 16 = .ok (.aload_n 0, 1) := by decide +kernel
theorem own_d4_17 : decode prog_29_method_4_code 17 = .ok (.getfield 18, 3) := by decide +kernel
theorem own_d4_20 : decode prog_29_method_4_code 20 = .ok (.ifnonnull 7, 3) := by decide +kernel
theorem own_d4_23 : decode prog_29_method_4_code 23 = .ok (.iconst 1, 1) := by decide +kernel
theorem own_d4_24 : decode prog_29_method_4_code 24 = .ok (.goto 4, 3) := by decide +kernel
theorem own_d4_27 : decode prog_29_method_4_code 27 = .ok (.iconst 0, 1) := by decide +kernel
theorem own_d4_28 : decode prog_29_method_4_code 28 = .ok (.ireturn, 1) := by decide +kernel
theorem own_ef4 (m : MethodId) (a1 : Addr) : entryFrame m #[(.ref a1)] 1 = mkF m 0 #[.val (.ref a1)] [] := by first | (simp [entryFrame, mkF, argsToLocals, Value.category]; done) | rfl
set_option maxRecDepth 65536 in
set_option maxHeartbeats 40000000 in
theorem own_rm4 (l : Launch) (Z : State) (a0 : Array Value) (hw : ∀ d ∈ tables_1, d.before a0 Z = true) (ws : List Jvm.Cond) (a1 : Addr) (p1 p2 : Int32) (r1 : Addr) (h0 : Heap) (n0 : Nat) (Z0 : n0 ≤ h0.size) (F_integerDigits : Fld Z h0 a1 "stowage/engine/DeclaredType$Numbers" "integerDigits" "I" (.int p1)) (F_fractionDigits : Fld Z h0 a1 "stowage/engine/DeclaredType$Numbers" "fractionDigits" "I" (.int p2)) (F_real : Fld Z h0 a1 "stowage/engine/DeclaredType$Numbers" "real" "Lstowage/engine/Real;" (.ref r1)) :
    MetFree l (⟨"stowage/engine/DeclaredType$Numbers", "holdsEveryLong", "()Z"⟩ : MethodName) (head1 (Jvm.Cond.code (⟨"stowage/engine/DeclaredType$Numbers", "holdsEveryLong", "()Z"⟩ : MethodName) prog_29_method_4_code 1 (some .boolean) :: ws) ({ frames := 0, cells := 0, slots := 0, locals := 0 } : Room)) (fun a U => a = #[(.ref a1)] ∧ Z.Warmed39 U.vm ∧ U.heap = h0) (fun _ _ _ _ _ => True) (fun _ U o U' => ∃ v L, o = .returned v ∧ own_Qp (some (.int 0)) h0 n0 v U'.heap L ∧ FrameEnd U o U' L ({ frames := 0, cells := 0, slots := 0, locals := 0 } : Room).cells ({ frames := 0, cells := 0, slots := 0, locals := 0 } : Room).slots) := by
  refine MetFree.of_bodySF (plainFor_of_name own_pn1) hisR ?_
  intro p e s m args below meth c s₁ Bd hml0 hP hK
  obtain ⟨rfl, hZ, hh⟩ := hP
  have hx := Bd.exec
  have hby := Bd.bytes
  have hml : c.maxLocals = 1 := hml0
  have hown : s.vm.findClass "stowage/engine/DeclaredType$Numbers" = some m.cls := findClass_of_methodNamed Bd.named
  have hnm := (name_of_methodNamed Bd.named Bd.method).1
  have X0 : Stand p l e ({ frames := 0, cells := 0, slots := 0, locals := 0 } : Room) s m #[(.ref a1)] below meth c s₁ [] 0 0 := Stand.of_body Bd
  have e0 : s₁.heap = h0 := by rw [← hh, Bd.state]; rfl
  have N0 := Fr.nil n0
  refine own_in (Q := own_Qp (some (.int 0)) h0 n0) ?_
  rw [own_ef4]
  show own_G _ _ _ _ _ _ _ (s₁.setTop (mkF m 0 #[.val (.ref a1)] []))
  refine own_st (fun t k => XS.aloadN X0.here hx rfl (hb hby own_d4_0) rfl rfl k) ?_
  show own_G _ _ _ _ _ _ _ (s₁.setTop (mkF m 1 #[.val (.ref a1)] [(.ref a1)]))
  obtain ⟨T46, X46, e46, st46⟩ := getF X0 hx hZ hown (host := "") (Or.inl (hw _ (List.mem_of_getElem? (i := 14) rfl))) Via.refl e0 F_integerDigits (g := (mkF m 1 #[.val (.ref a1)] [(.ref a1)])) rfl rfl (hb hby own_d4_1)
  refine own_st (fun t k => st46 t k) ?_
  show own_G _ _ _ _ _ _ _ (T46.setTop (mkF m 4 #[.val (.ref a1)] [(.int p1)]))
  refine own_st (fun t k => XS.bipush X46.here hx rfl (hb hby own_d4_4) k) ?_
  show own_G _ _ _ _ _ _ _ (T46.setTop (mkF m 6 #[.val (.ref a1)] [(.int (19 : Int32)), (.int p1)]))
  by_cases h1 : p1 < (19 : Int32)
  · refine own_st (fun t k => XS.icmpYes X46.here hx rfl (pc0 := 6) (pc' := 27) rfl (hb hby own_d4_6) rfl (tlt h1).1 (by decide) (by decide) k) ?_
    show own_G _ _ _ _ _ _ _ (T46.setTop (mkF m 27 #[.val (.ref a1)] []))
    refine own_st (fun t k => XS.iconst X46.here hx rfl (hb hby own_d4_27) k) ?_
    show own_G _ _ _ _ _ _ _ (T46.setTop (mkF m 28 #[.val (.ref a1)] [(.int (0 : Int32))]))
    exact own_retN (t := .boolean) (by simp) X46 hx Bd.returns (BodyLoose.notSynchronized Bd) (hb hby own_d4_28) (by decide) (by decide) ⟨rfl, N0, e46⟩
  · refine own_st (fun t k => XS.icmpNo X46.here hx rfl (hb hby own_d4_6) rfl (flt h1).1 k) ?_
    show own_G _ _ _ _ _ _ _ (T46.setTop (mkF m 9 #[.val (.ref a1)] []))
    refine own_st (fun t k => XS.aloadN X46.here hx rfl (hb hby own_d4_9) rfl rfl k) ?_
    show own_G _ _ _ _ _ _ _ (T46.setTop (mkF m 10 #[.val (.ref a1)] [(.ref a1)]))
    obtain ⟨T47, X47, e47, st47⟩ := getF X46 hx hZ hown (host := "") (Or.inl (hw _ (List.mem_of_getElem? (i := 16) rfl))) Via.refl e46 F_fractionDigits (g := (mkF m 10 #[.val (.ref a1)] [(.ref a1)])) rfl rfl (hb hby own_d4_10)
    refine own_st (fun t k => st47 t k) ?_
    show own_G _ _ _ _ _ _ _ (T47.setTop (mkF m 13 #[.val (.ref a1)] [(.int p2)]))
    by_cases h2 : p2 < (0 : Int32)
    · refine own_st (fun t k => XS.ifYes X47.here hx rfl (pc0 := 13) (pc' := 27) rfl (hb hby own_d4_13) rfl ((if0 _ _).trans (tlt h2).1) (by decide) (by decide) k) ?_
      show own_G _ _ _ _ _ _ _ (T47.setTop (mkF m 27 #[.val (.ref a1)] []))
      refine own_st (fun t k => XS.iconst X47.here hx rfl (hb hby own_d4_27) k) ?_
      show own_G _ _ _ _ _ _ _ (T47.setTop (mkF m 28 #[.val (.ref a1)] [(.int (0 : Int32))]))
      exact own_retN (t := .boolean) (by simp) X47 hx Bd.returns (BodyLoose.notSynchronized Bd) (hb hby own_d4_28) (by decide) (by decide) ⟨rfl, N0, e47⟩
    · refine own_st (fun t k => XS.ifNo X47.here hx rfl (hb hby own_d4_13) rfl ((if0 _ _).trans (flt h2).1) k) ?_
      show own_G _ _ _ _ _ _ _ (T47.setTop (mkF m 16 #[.val (.ref a1)] []))
      refine own_st (fun t k => XS.aloadN X47.here hx rfl (hb hby own_d4_16) rfl rfl k) ?_
      show own_G _ _ _ _ _ _ _ (T47.setTop (mkF m 17 #[.val (.ref a1)] [(.ref a1)]))
      obtain ⟨T48, X48, e48, st48⟩ := getF X47 hx hZ hown (host := "") (Or.inl (hw _ (List.mem_of_getElem? (i := 18) rfl))) Via.refl e47 F_real (g := (mkF m 17 #[.val (.ref a1)] [(.ref a1)])) rfl rfl (hb hby own_d4_17)
      refine own_st (fun t k => st48 t k) ?_
      show own_G _ _ _ _ _ _ _ (T48.setTop (mkF m 20 #[.val (.ref a1)] [(.ref r1)]))
      refine own_st (fun t k => XS.ifnonnullYes X48.here hx rfl (pc0 := 20) (pc' := 27) rfl (hb hby own_d4_20) rfl (by decide) (by decide) k) ?_
      show own_G _ _ _ _ _ _ _ (T48.setTop (mkF m 27 #[.val (.ref a1)] []))
      refine own_st (fun t k => XS.iconst X48.here hx rfl (hb hby own_d4_27) k) ?_
      show own_G _ _ _ _ _ _ _ (T48.setTop (mkF m 28 #[.val (.ref a1)] [(.int (0 : Int32))]))
      exact own_retN (t := .boolean) (by simp) X48 hx Bd.returns (BodyLoose.notSynchronized Bd) (hb hby own_d4_28) (by decide) (by decide) ⟨rfl, N0, e48⟩
theorem own_d5_0 : decode prog_29_method_4_code 0 = .ok (.aload_n 0, 1) := by decide +kernel
theorem own_d5_1 : decode prog_29_method_4_code 1 = .ok (.getfield 9, 3) := by decide +kernel
theorem own_d5_4 : decode prog_29_method_4_code 4 = .ok (.bipush 19, 2) := by decide +kernel
theorem own_d5_6 : decode prog_29_method_4_code 6 = .ok (.if_icmp .lt 21, 3) := by decide +kernel
theorem own_d5_9 : decode prog_29_method_4_code 9 = .ok (.aload_n 0, 1) := by decide +kernel
theorem own_d5_10 : decode prog_29_method_4_code 10 = .ok (.getfield 15, 3) := by decide +kernel
theorem own_d5_13 : decode prog_29_method_4_code 13 = .ok (.ifCond .lt 14, 3) := by decide +kernel
theorem own_d5_16 : decode prog_29_method_4_code 16 = .ok (.aload_n 0, 1) := by decide +kernel
theorem own_d5_17 : decode prog_29_method_4_code 17 = .ok (.getfield 18, 3) := by decide +kernel
theorem own_d5_20 : decode prog_29_method_4_code 20 = .ok (.ifnonnull 7, 3) := by decide +kernel
theorem own_d5_23 : decode prog_29_method_4_code 23 = .ok (.iconst 1, 1) := by decide +kernel
theorem own_d5_24 : decode prog_29_method_4_code 24 = .ok (.goto 4, 3) := by decide +kernel
theorem own_d5_27 : decode prog_29_method_4_code 27 = .ok (.iconst 0, 1) := by decide +kernel
theorem own_d5_28 : decode prog_29_method_4_code 28 = .ok (.ireturn, 1) := by decide +kernel
theorem own_ef5 (m : MethodId) (a1 : Addr) : entryFrame m #[(.ref a1)] 1 = mkF m 0 #[.val (.ref a1)] [] := by first | (simp [entryFrame, mkF, argsToLocals, Value.category]; done) | rfl
set_option maxRecDepth 65536 in
set_option maxHeartbeats 40000000 in
theorem own_rm5 (l : Launch) (Z : State) (a0 : Array Value) (hw : ∀ d ∈ tables_1, d.before a0 Z = true) (ws : List Jvm.Cond) (a1 : Addr) (p1 p2 : Int32) (h0 : Heap) (n0 : Nat) (Z0 : n0 ≤ h0.size) (F_integerDigits : Fld Z h0 a1 "stowage/engine/DeclaredType$Numbers" "integerDigits" "I" (.int p1)) (F_fractionDigits : Fld Z h0 a1 "stowage/engine/DeclaredType$Numbers" "fractionDigits" "I" (.int p2)) (F_real : Fld Z h0 a1 "stowage/engine/DeclaredType$Numbers" "real" "Lstowage/engine/Real;" .null) :
    MetFree l (⟨"stowage/engine/DeclaredType$Numbers", "holdsEveryLong", "()Z"⟩ : MethodName) (head1 (Jvm.Cond.code (⟨"stowage/engine/DeclaredType$Numbers", "holdsEveryLong", "()Z"⟩ : MethodName) prog_29_method_4_code 1 (some .boolean) :: ws) ({ frames := 0, cells := 0, slots := 0, locals := 0 } : Room)) (fun a U => a = #[(.ref a1)] ∧ Z.Warmed39 U.vm ∧ U.heap = h0) (fun _ _ _ _ _ => True) (fun _ U o U' => ∃ v L, o = .returned v ∧ own_Qp (some (.int (own_b (¬ p1 < 19 ∧ ¬ p2 < 0)))) h0 n0 v U'.heap L ∧ FrameEnd U o U' L ({ frames := 0, cells := 0, slots := 0, locals := 0 } : Room).cells ({ frames := 0, cells := 0, slots := 0, locals := 0 } : Room).slots) := by
  refine MetFree.of_bodySF (plainFor_of_name own_pn1) hisR ?_
  intro p e s m args below meth c s₁ Bd hml0 hP hK
  obtain ⟨rfl, hZ, hh⟩ := hP
  have hx := Bd.exec
  have hby := Bd.bytes
  have hml : c.maxLocals = 1 := hml0
  have hown : s.vm.findClass "stowage/engine/DeclaredType$Numbers" = some m.cls := findClass_of_methodNamed Bd.named
  have hnm := (name_of_methodNamed Bd.named Bd.method).1
  have X0 : Stand p l e ({ frames := 0, cells := 0, slots := 0, locals := 0 } : Room) s m #[(.ref a1)] below meth c s₁ [] 0 0 := Stand.of_body Bd
  have e0 : s₁.heap = h0 := by rw [← hh, Bd.state]; rfl
  have N0 := Fr.nil n0
  refine own_in (Q := own_Qp (some (.int (own_b (¬ p1 < 19 ∧ ¬ p2 < 0)))) h0 n0) ?_
  rw [own_ef5]
  show own_G _ _ _ _ _ _ _ (s₁.setTop (mkF m 0 #[.val (.ref a1)] []))
  refine own_st (fun t k => XS.aloadN X0.here hx rfl (hb hby own_d5_0) rfl rfl k) ?_
  show own_G _ _ _ _ _ _ _ (s₁.setTop (mkF m 1 #[.val (.ref a1)] [(.ref a1)]))
  obtain ⟨T49, X49, e49, st49⟩ := getF X0 hx hZ hown (host := "") (Or.inl (hw _ (List.mem_of_getElem? (i := 14) rfl))) Via.refl e0 F_integerDigits (g := (mkF m 1 #[.val (.ref a1)] [(.ref a1)])) rfl rfl (hb hby own_d5_1)
  refine own_st (fun t k => st49 t k) ?_
  show own_G _ _ _ _ _ _ _ (T49.setTop (mkF m 4 #[.val (.ref a1)] [(.int p1)]))
  refine own_st (fun t k => XS.bipush X49.here hx rfl (hb hby own_d5_4) k) ?_
  show own_G _ _ _ _ _ _ _ (T49.setTop (mkF m 6 #[.val (.ref a1)] [(.int (19 : Int32)), (.int p1)]))
  by_cases h1 : p1 < (19 : Int32)
  · refine own_st (fun t k => XS.icmpYes X49.here hx rfl (pc0 := 6) (pc' := 27) rfl (hb hby own_d5_6) rfl (tlt h1).1 (by decide) (by decide) k) ?_
    show own_G _ _ _ _ _ _ _ (T49.setTop (mkF m 27 #[.val (.ref a1)] []))
    refine own_st (fun t k => XS.iconst X49.here hx rfl (hb hby own_d5_27) k) ?_
    show own_G _ _ _ _ _ _ _ (T49.setTop (mkF m 28 #[.val (.ref a1)] [(.int (0 : Int32))]))
    exact own_retN (t := .boolean) (by simp) X49 hx Bd.returns (BodyLoose.notSynchronized Bd) (hb hby own_d5_28) (by decide) (by decide) ⟨own_bF (fun q => q.1 h1), N0, e49⟩
  · refine own_st (fun t k => XS.icmpNo X49.here hx rfl (hb hby own_d5_6) rfl (flt h1).1 k) ?_
    show own_G _ _ _ _ _ _ _ (T49.setTop (mkF m 9 #[.val (.ref a1)] []))
    refine own_st (fun t k => XS.aloadN X49.here hx rfl (hb hby own_d5_9) rfl rfl k) ?_
    show own_G _ _ _ _ _ _ _ (T49.setTop (mkF m 10 #[.val (.ref a1)] [(.ref a1)]))
    obtain ⟨T50, X50, e50, st50⟩ := getF X49 hx hZ hown (host := "") (Or.inl (hw _ (List.mem_of_getElem? (i := 16) rfl))) Via.refl e49 F_fractionDigits (g := (mkF m 10 #[.val (.ref a1)] [(.ref a1)])) rfl rfl (hb hby own_d5_10)
    refine own_st (fun t k => st50 t k) ?_
    show own_G _ _ _ _ _ _ _ (T50.setTop (mkF m 13 #[.val (.ref a1)] [(.int p2)]))
    by_cases h2 : p2 < (0 : Int32)
    · refine own_st (fun t k => XS.ifYes X50.here hx rfl (pc0 := 13) (pc' := 27) rfl (hb hby own_d5_13) rfl ((if0 _ _).trans (tlt h2).1) (by decide) (by decide) k) ?_
      show own_G _ _ _ _ _ _ _ (T50.setTop (mkF m 27 #[.val (.ref a1)] []))
      refine own_st (fun t k => XS.iconst X50.here hx rfl (hb hby own_d5_27) k) ?_
      show own_G _ _ _ _ _ _ _ (T50.setTop (mkF m 28 #[.val (.ref a1)] [(.int (0 : Int32))]))
      exact own_retN (t := .boolean) (by simp) X50 hx Bd.returns (BodyLoose.notSynchronized Bd) (hb hby own_d5_28) (by decide) (by decide) ⟨own_bF (fun q => q.2 h2), N0, e50⟩
    · refine own_st (fun t k => XS.ifNo X50.here hx rfl (hb hby own_d5_13) rfl ((if0 _ _).trans (flt h2).1) k) ?_
      show own_G _ _ _ _ _ _ _ (T50.setTop (mkF m 16 #[.val (.ref a1)] []))
      refine own_st (fun t k => XS.aloadN X50.here hx rfl (hb hby own_d5_16) rfl rfl k) ?_
      show own_G _ _ _ _ _ _ _ (T50.setTop (mkF m 17 #[.val (.ref a1)] [(.ref a1)]))
      obtain ⟨T51, X51, e51, st51⟩ := getF X50 hx hZ hown (host := "") (Or.inl (hw _ (List.mem_of_getElem? (i := 18) rfl))) Via.refl e50 F_real (g := (mkF m 17 #[.val (.ref a1)] [(.ref a1)])) rfl rfl (hb hby own_d5_17)
      refine own_st (fun t k => st51 t k) ?_
      show own_G _ _ _ _ _ _ _ (T51.setTop (mkF m 20 #[.val (.ref a1)] [.null]))
      refine own_st (fun t k => XS.ifnonnullNo X51.here hx rfl (hb hby own_d5_20) rfl k) ?_
      show own_G _ _ _ _ _ _ _ (T51.setTop (mkF m 23 #[.val (.ref a1)] []))
      refine own_st (fun t k => XS.iconst X51.here hx rfl (hb hby own_d5_23) k) ?_
      show own_G _ _ _ _ _ _ _ (T51.setTop (mkF m 24 #[.val (.ref a1)] [(.int (1 : Int32))]))
      refine own_st (fun t k => XS.goto X51.here hx rfl (pc0 := 24) (pc' := 28) rfl (hb hby own_d5_24) (by decide) (by decide) k) ?_
      show own_G _ _ _ _ _ _ _ (T51.setTop (mkF m 28 #[.val (.ref a1)] [(.int (1 : Int32))]))
      exact own_retN (t := .boolean) (by simp) X51 hx Bd.returns (BodyLoose.notSynchronized Bd) (hb hby own_d5_28) (by decide) (by decide) ⟨own_bT ⟨h1, h2⟩, N0, e51⟩
def own_Q6 (Z : State) (r1 : Addr) (h0 : Heap) (n0 : Nat) (v : Option Value) (h : Heap) (L : List Loc) : Prop := ∃ a2 : Addr, v = some (.ref a2) ∧ Fr n0 L ∧ Keep h0 h [] ∧ Exa Z h a2 "stowage/engine/DeclaredType$Numbers" ∧ Fld Z h a2 "stowage/engine/DeclaredType$Numbers" "integerDigits" "I" (.int 2147483647) ∧ Fld Z h a2 "stowage/engine/DeclaredType$Numbers" "fractionDigits" "I" (.int 2147483647) ∧ Fld Z h a2 "stowage/engine/DeclaredType$Numbers" "real" "Lstowage/engine/Real;" (.ref r1)
theorem own_d6_0 : decode prog_29_method_2_code 0 = .ok (.new 10, 3) := by decide +kernel
theorem own_d6_3 : decode prog_29_method_2_code 3 = .ok (.dup, 1) := by decide +kernel
theorem own_d6_4 : decode prog_29_method_2_code 4 = .ok (.ldc 22, 2) := by decide +kernel
theorem own_d6_6 : decode prog_29_method_2_code 6 = .ok (.ldc 22, 2) := by decide +kernel
theorem own_d6_8 : decode prog_29_method_2_code 8 = .ok (.aload_n 0, 1) := by decide +kernel
theorem own_d6_9 : decode prog_29_method_2_code 9 = .ok (.invokespecial 23, 3) := by decide +kernel
theorem own_d6_12 : decode prog_29_method_2_code 12 = .ok (.areturn, 1) := by decide +kernel
theorem own_ef6 (m : MethodId) (r1 : Addr) : entryFrame m #[(.ref r1)] 1 = mkF m 0 #[.val (.ref r1)] [] := by first | (simp [entryFrame, mkF, argsToLocals, Value.category]; done) | rfl
set_option maxRecDepth 65536 in
set_option maxHeartbeats 40000000 in
theorem own_rm6 (l : Launch) (Z : State) (a0 : Array Value) (hw : ∀ d ∈ tables_1, d.before a0 Z = true) (ws : List Jvm.Cond) (r1 : Addr) (h0 : Heap) (n0 : Nat) (Z0 : n0 ≤ h0.size)  :
    MetFree l (⟨"stowage/engine/DeclaredType$Numbers", "of", "(Lstowage/engine/Real;)Lstowage/engine/DeclaredType$Numbers;"⟩ : MethodName) (head1 (Jvm.Cond.code (⟨"stowage/engine/DeclaredType$Numbers", "of", "(Lstowage/engine/Real;)Lstowage/engine/DeclaredType$Numbers;"⟩ : MethodName) prog_29_method_2_code 1 (some (.object "stowage/engine/DeclaredType$Numbers")) :: ws) ({ frames := 3, cells := 1, slots := 3, locals := 40 } : Room)) (fun a U => a = #[(.ref r1)] ∧ Z.Warmed39 U.vm ∧ U.heap = h0) (fun _ _ _ _ _ => True) (fun _ U o U' => ∃ v L, o = .returned v ∧ own_Q6 Z r1 h0 n0 v U'.heap L ∧ FrameEnd U o U' L ({ frames := 3, cells := 1, slots := 3, locals := 40 } : Room).cells ({ frames := 3, cells := 1, slots := 3, locals := 40 } : Room).slots) := by
  refine MetFree.of_bodySF (plainFor_of_name own_pn1) hisR ?_
  intro p e s m args below meth c s₁ Bd hml0 hP hK
  obtain ⟨rfl, hZ, hh⟩ := hP
  have hx := Bd.exec
  have hby := Bd.bytes
  have hml : c.maxLocals = 1 := hml0
  have hown : s.vm.findClass "stowage/engine/DeclaredType$Numbers" = some m.cls := findClass_of_methodNamed Bd.named
  have hnm := (name_of_methodNamed Bd.named Bd.method).1
  have X0 : Stand p l e ({ frames := 3, cells := 1, slots := 3, locals := 40 } : Room) s m #[(.ref r1)] below meth c s₁ [] 0 0 := Stand.of_body Bd
  have e0 : s₁.heap = h0 := by rw [← hh, Bd.state]; rfl
  have N0 := Fr.nil n0
  refine own_in (Q := own_Q6 Z r1 h0 n0) ?_
  rw [own_ef6]
  show own_G _ _ _ _ _ _ _ (s₁.setTop (mkF m 0 #[.val (.ref r1)] []))
  obtain ⟨T52, h52, X52, e52, E52, A52, D52, -, st52⟩ := newO X0 hx hZ hown (hw _ (List.mem_of_getElem? (i := 35) rfl)) (hw _ (List.mem_of_getElem? (i := 1) rfl)) (hw _ (List.mem_of_getElem? (i := 2) rfl)) e0 (g := (mkF m 0 #[.val (.ref r1)] [])) rfl (hb hby own_d6_0) (by decide) (by decide)
  obtain ⟨a2, g52⟩ : ∃ z, z = h0.size := ⟨_, rfl⟩
  rw [← g52] at A52 D52 st52
  refine own_st (fun t k => st52 t k) ?_
  show own_G _ _ _ _ _ _ _ (T52.setTop (mkF m 3 #[.val (.ref r1)] [(.ref a2)]))
  have ge_a2 : n0 ≤ a2 := Nat.le_trans Z0 (Nat.le_of_eq g52.symm)
  have sz_a2 : h0.size ≤ a2 := Nat.le_trans (Keep.refl h0 []).1 (Nat.le_of_eq g52.symm)
  have Zz53 : n0 ≤ h52.size := Nat.le_trans Z0 E52.1
  have Kk54 := (Keep.refl h0 []).ext E52
  have F_integerDigits : Fld Z h52 a2 "stowage/engine/DeclaredType$Numbers" "integerDigits" "I" (.int 0) := D52 (Or.inr (hw _ (List.mem_of_getElem? (i := 15) rfl))) (ty := .int) (by decide)
  have F_fractionDigits : Fld Z h52 a2 "stowage/engine/DeclaredType$Numbers" "fractionDigits" "I" (.int 0) := D52 (Or.inr (hw _ (List.mem_of_getElem? (i := 17) rfl))) (ty := .int) (by decide)
  have F_real : Fld Z h52 a2 "stowage/engine/DeclaredType$Numbers" "real" "Lstowage/engine/Real;" .null := D52 (Or.inr (hw _ (List.mem_of_getElem? (i := 19) rfl))) (ty := (.object "stowage/engine/Real")) (by decide)
  refine own_st (fun t k => XS.dup X52.here hx rfl (hb hby own_d6_3) rfl rfl k) ?_
  show own_G _ _ _ _ _ _ _ (T52.setTop (mkF m 4 #[.val (.ref r1)] [(.ref a2), (.ref a2)]))
  refine own_st (fun t k => X52.ldcInt hx hown (mvT hZ (hw _ (List.mem_of_getElem? (i := 36) rfl))) (g := (mkF m 4 #[.val (.ref r1)] [(.ref a2), (.ref a2)])) rfl (hb hby own_d6_4) t k) ?_
  show own_G _ _ _ _ _ _ _ (T52.setTop (mkF m 6 #[.val (.ref r1)] [(.int (2147483647 : Int32)), (.ref a2), (.ref a2)]))
  refine own_st (fun t k => X52.ldcInt hx hown (mvT hZ (hw _ (List.mem_of_getElem? (i := 36) rfl))) (g := (mkF m 6 #[.val (.ref r1)] [(.int (2147483647 : Int32)), (.ref a2), (.ref a2)])) rfl (hb hby own_d6_6) t k) ?_
  show own_G _ _ _ _ _ _ _ (T52.setTop (mkF m 8 #[.val (.ref r1)] [(.int (2147483647 : Int32)), (.int (2147483647 : Int32)), (.ref a2), (.ref a2)]))
  refine own_st (fun t k => XS.aloadN X52.here hx rfl (hb hby own_d6_8) rfl rfl k) ?_
  show own_G _ _ _ _ _ _ _ (T52.setTop (mkF m 9 #[.val (.ref r1)] [(.ref r1), (.int (2147483647 : Int32)), (.int (2147483647 : Int32)), (.ref a2), (.ref a2)]))
  obtain ⟨_, _, ⟨T55, L55, k55, n55⟩, -, X55, ⟨Lc55, hQ55, l55, y55, z55⟩, st55⟩ := X52.specialBack hx (y := (⟨"stowage/engine/DeclaredType$Numbers", "<init>", "(IILstowage/engine/Real;)V"⟩ : MethodName)) rfl hown (mvT hZ (hw _ (List.mem_of_getElem? (i := 37) rfl))) (mvT hZ (hw _ (List.mem_of_getElem? (i := 4) rfl))) (mvT hZ (hw _ (List.mem_of_getElem? (i := 5) rfl))) (by decide) (backOf (W := 1) (own_rm1 l Z a0 hw [] a2 2147483647 2147483647 r1 h52 n0 Zz53 A52 F_integerDigits F_fractionDigits F_real ge_a2) hZ (hw _ (List.mem_of_getElem? (i := 5) rfl)) (hw _ (List.mem_of_getElem? (i := 2) rfl)) (by decide) (by decide)) (g := (mkF m 9 #[.val (.ref r1)] [(.ref r1), (.int (2147483647 : Int32)), (.int (2147483647 : Int32)), (.ref a2), (.ref a2)])) rfl (by rw [hml]; rfl) (Steps.refl _) (a := a2) (argsL := [(.int (2147483647 : Int32)), (.int (2147483647 : Int32)), (.ref r1)]) (rest := [(.ref a2)]) (lenOf own_pd0 rfl) rfl (by show 2 * 0 + _ ≤ _; exact Nat.le_of_eq rfl) (hb hby own_d6_9) (fun _ _ => ⟨rfl, e52, (by decide : 1 + 0 ≤ _), (by decide : 3 + 0 ≤ _)⟩)
  dsimp only [Pt.U, Pt.locs, Pt.cells, Pt.slots] at X55 l55 y55 z55 st55 hQ55
  subst l55 y55 z55
  obtain ⟨rfl, N55q, K55, Ax55, Fi55, Ff55, Fr55⟩ := hQ55
  have N55 := Fr.app N0 N55q
  refine own_st (fun t k => st55.trans k) ?_
  show own_G _ _ _ _ _ _ _ (T55.setTop (mkF m 12 #[.val (.ref r1)] [(.ref a2)]))
  have Zz56 : n0 ≤ _ := Nat.le_trans Zz53 K55.1
  have Kk57 := Kk54.trans K55 (allS (Or.inr sz_a2) all0)
  exact own_retA (ft := (.object "stowage/engine/DeclaredType$Numbers")) (w := (.ref a2)) rfl rfl X55 hx Bd.returns (BodyLoose.notSynchronized Bd) (hb hby own_d6_12) (by decide) (by decide) ⟨a2, rfl, N55, Kk57, Ax55, Fi55, Ff55, Fr55⟩
theorem own_pn2 : plainName "stowage/engine/NumbersHoldsEveryLongPinLaw" = true := by first | (simp [plainName, overriddenIn]; done) | decide +kernel
theorem own_ef0 (m : MethodId) (p1 : Int32) (p2 : Int32) (p3 : Int32) : entryFrame m #[(.int p1), (.int p2), (.int p3)] maxLocals = mkF m 0 #[.val (.int p1), .val (.int p2), .val (.int p3), .unset, .unset, .unset, .unset, .unset, .unset, .unset, .unset, .unset, .unset] [] := by first | (simp [entryFrame, mkF, argsToLocals, Value.category, maxLocals]; done) | rfl
set_option maxRecDepth 65536 in
set_option maxHeartbeats 40000000 in
theorem own_rm0 (l : Launch) (Z : State) (a0 : Array Value) (hw : ∀ d ∈ tables_1, d.before a0 Z = true) (ws : List Jvm.Cond) (p1 p2 p3 : Int32) (c_ANY c_WHOLE c_DOUBLE c_SINGLE : Addr) (h0 : Heap) (n0 : Nat) (Z0 : n0 ≤ h0.size) (O0 : Old Z n0 h0) (S_ANY : Sta Z Z.heap "stowage/engine/DeclaredType$Numbers" "ANY" "Lstowage/engine/DeclaredType$Numbers;" (.ref c_ANY)) (S_WHOLE : Sta Z Z.heap "stowage/engine/DeclaredType$Numbers" "WHOLE" "Lstowage/engine/DeclaredType$Numbers;" (.ref c_WHOLE)) (S_DOUBLE : Sta Z Z.heap "stowage/engine/Real" "DOUBLE" "Lstowage/engine/Real;" (.ref c_DOUBLE)) (S_SINGLE : Sta Z Z.heap "stowage/engine/Real" "SINGLE" "Lstowage/engine/Real;" (.ref c_SINGLE)) (A_ANY : Exa Z Z.heap c_ANY "stowage/engine/DeclaredType$Numbers") (Fi_ANY : Fld Z Z.heap c_ANY "stowage/engine/DeclaredType$Numbers" "integerDigits" "I" (.int 2147483647)) (Ff_ANY : Fld Z Z.heap c_ANY "stowage/engine/DeclaredType$Numbers" "fractionDigits" "I" (.int 2147483647)) (Fr_ANY : Fld Z Z.heap c_ANY "stowage/engine/DeclaredType$Numbers" "real" "Lstowage/engine/Real;" .null) (A_WHOLE : Exa Z Z.heap c_WHOLE "stowage/engine/DeclaredType$Numbers") (Fi_WHOLE : Fld Z Z.heap c_WHOLE "stowage/engine/DeclaredType$Numbers" "integerDigits" "I" (.int 2147483647)) (Ff_WHOLE : Fld Z Z.heap c_WHOLE "stowage/engine/DeclaredType$Numbers" "fractionDigits" "I" (.int 0)) (Fr_WHOLE : Fld Z Z.heap c_WHOLE "stowage/engine/DeclaredType$Numbers" "real" "Lstowage/engine/Real;" .null) :
    MetFree l x (head1 (Jvm.Cond.code x code maxLocals ret :: ws) room_1) (fun a U => a = #[(.int p1), (.int p2), (.int p3)] ∧ Z.Warmed39 U.vm ∧ U.heap = h0) (fun _ _ _ _ _ => True) (fun _ U o U' => ∃ v L, o = .returned v ∧ own_Q0 n0 v U'.heap L ∧ FrameEnd U o U' L room_1.cells room_1.slots) := by
  refine MetFree.of_bodySF (plainFor_of_name own_pn2) hisR ?_
  intro p e s m args below meth c s₁ Bd hml0 hP hK
  obtain ⟨rfl, hZ, hh⟩ := hP
  have hx := Bd.exec
  have hby := Bd.bytes
  have hml : c.maxLocals = 13 := hml0
  have hown : s.vm.findClass "stowage/engine/NumbersHoldsEveryLongPinLaw" = some m.cls := findClass_of_methodNamed Bd.named
  have hnm := (name_of_methodNamed Bd.named Bd.method).1
  have X0 : Stand p l e room_1 s m #[(.int p1), (.int p2), (.int p3)] below meth c s₁ [] 0 0 := Stand.of_body Bd
  have e0 : s₁.heap = h0 := by rw [← hh, Bd.state]; rfl
  have N0 := Fr.nil n0
  refine own_in (Q := own_Q0 n0) ?_
  rw [own_ef0]
  show own_G _ _ _ _ _ _ _ (s₁.setTop (mkF m 0 #[.val (.int p1), .val (.int p2), .val (.int p3), .unset, .unset, .unset, .unset, .unset, .unset, .unset, .unset, .unset, .unset] []))
  have J16 : ∀ (i3 : Int32), own_G p.tables e below s (own_Q0 n0) room_1.cells room_1.slots (s₁.setTop (mkF m 16 #[.val (.int p1), .val (.int p2), .val (.int p3), .unset, .unset, .unset, .unset, .unset, .unset, .unset, .unset, .unset, .unset] [(.int i3)])) := by
    intro i3
    refine own_st (fun t k => XS.istoreN X0.here hx rfl (hb hby at_16) rfl (l' := #[.val (.int p1), .val (.int p2), .val (.int p3), .val (.int i3), .unset, .unset, .unset, .unset, .unset, .unset, .unset, .unset, .unset]) rfl k) ?_
    show own_G _ _ _ _ _ _ _ (s₁.setTop (mkF m 17 #[.val (.int p1), .val (.int p2), .val (.int p3), .val (.int i3), .unset, .unset, .unset, .unset, .unset, .unset, .unset, .unset, .unset] []))
    refine own_st (fun t k => XS.iloadN X0.here hx rfl (hb hby at_17) rfl k) ?_
    show own_G _ _ _ _ _ _ _ (s₁.setTop (mkF m 18 #[.val (.int p1), .val (.int p2), .val (.int p3), .val (.int i3), .unset, .unset, .unset, .unset, .unset, .unset, .unset, .unset, .unset] [(.int p3)]))
    refine own_st (fun t k => XS.iconst X0.here hx rfl (hb hby at_18) k) ?_
    show own_G _ _ _ _ _ _ _ (s₁.setTop (mkF m 19 #[.val (.int p1), .val (.int p2), .val (.int p3), .val (.int i3), .unset, .unset, .unset, .unset, .unset, .unset, .unset, .unset, .unset] [(.int (2 : Int32)), (.int p3)]))
    refine own_st (fun t k => XS.iand X0.here hx rfl (hb hby at_19) rfl k) ?_
    show own_G _ _ _ _ _ _ _ (s₁.setTop (mkF m 20 #[.val (.int p1), .val (.int p2), .val (.int p3), .val (.int i3), .unset, .unset, .unset, .unset, .unset, .unset, .unset, .unset, .unset] [(.int (p3 &&& (2 : Int32)))]))
    have J32 : ∀ (f4 : Int32), own_G p.tables e below s (own_Q0 n0) room_1.cells room_1.slots (s₁.setTop (mkF m 32 #[.val (.int p1), .val (.int p2), .val (.int p3), .val (.int i3), .unset, .unset, .unset, .unset, .unset, .unset, .unset, .unset, .unset] [(.int f4)])) := by
      intro f4
      refine own_st (fun t k => XS.istore X0.here hx rfl (hb hby at_32) rfl (l' := #[.val (.int p1), .val (.int p2), .val (.int p3), .val (.int i3), .val (.int f4), .unset, .unset, .unset, .unset, .unset, .unset, .unset, .unset]) rfl k) ?_
      show own_G _ _ _ _ _ _ _ (s₁.setTop (mkF m 34 #[.val (.int p1), .val (.int p2), .val (.int p3), .val (.int i3), .val (.int f4), .unset, .unset, .unset, .unset, .unset, .unset, .unset, .unset] []))
      refine own_st (fun t k => XS.iloadN X0.here hx rfl (hb hby at_34) rfl k) ?_
      show own_G _ _ _ _ _ _ _ (s₁.setTop (mkF m 35 #[.val (.int p1), .val (.int p2), .val (.int p3), .val (.int i3), .val (.int f4), .unset, .unset, .unset, .unset, .unset, .unset, .unset, .unset] [(.int p3)]))
      refine own_st (fun t k => XS.iconst X0.here hx rfl (hb hby at_35) k) ?_
      show own_G _ _ _ _ _ _ _ (s₁.setTop (mkF m 36 #[.val (.int p1), .val (.int p2), .val (.int p3), .val (.int i3), .val (.int f4), .unset, .unset, .unset, .unset, .unset, .unset, .unset, .unset] [(.int (2 : Int32)), (.int p3)]))
      refine own_st (fun t k => XS.iushr X0.here hx rfl (hb hby at_36) rfl k) ?_
      show own_G _ _ _ _ _ _ _ (s₁.setTop (mkF m 37 #[.val (.int p1), .val (.int p2), .val (.int p3), .val (.int i3), .val (.int f4), .unset, .unset, .unset, .unset, .unset, .unset, .unset, .unset] [(.int ((p3.toUInt32 >>> ((2 : Int32) &&& 31).toUInt32).toInt32))]))
      refine own_st (fun t k => XS.iconst X0.here hx rfl (hb hby at_37) k) ?_
      show own_G _ _ _ _ _ _ _ (s₁.setTop (mkF m 38 #[.val (.int p1), .val (.int p2), .val (.int p3), .val (.int i3), .val (.int f4), .unset, .unset, .unset, .unset, .unset, .unset, .unset, .unset] [(.int (3 : Int32)), (.int ((p3.toUInt32 >>> ((2 : Int32) &&& 31).toUInt32).toInt32))]))
      refine own_st (fun t k => XS.iand X0.here hx rfl (hb hby at_38) rfl k) ?_
      show own_G _ _ _ _ _ _ _ (s₁.setTop (mkF m 39 #[.val (.int p1), .val (.int p2), .val (.int p3), .val (.int i3), .val (.int f4), .unset, .unset, .unset, .unset, .unset, .unset, .unset, .unset] [(.int (((p3.toUInt32 >>> ((2 : Int32) &&& 31).toUInt32).toInt32) &&& (3 : Int32)))]))
      refine own_st (fun t k => XS.istore X0.here hx rfl (hb hby at_39) rfl (l' := #[.val (.int p1), .val (.int p2), .val (.int p3), .val (.int i3), .val (.int f4), .val (.int (((p3.toUInt32 >>> ((2 : Int32) &&& 31).toUInt32).toInt32) &&& (3 : Int32))), .unset, .unset, .unset, .unset, .unset, .unset, .unset]) rfl k) ?_
      show own_G _ _ _ _ _ _ _ (s₁.setTop (mkF m 41 #[.val (.int p1), .val (.int p2), .val (.int p3), .val (.int i3), .val (.int f4), .val (.int (((p3.toUInt32 >>> ((2 : Int32) &&& 31).toUInt32).toInt32) &&& (3 : Int32))), .unset, .unset, .unset, .unset, .unset, .unset, .unset] []))
      generalize (((p3.toUInt32 >>> ((2 : Int32) &&& 31).toUInt32).toInt32) &&& (3 : Int32)) = pk
      show own_G _ _ _ _ _ _ _ (s₁.setTop (mkF m 41 #[.val (.int p1), .val (.int p2), .val (.int p3), .val (.int i3), .val (.int f4), .val (.int pk), .unset, .unset, .unset, .unset, .unset, .unset, .unset] []))
      refine own_st (fun t k => XS.iload X0.here hx rfl (hb hby at_41) rfl k) ?_
      show own_G _ _ _ _ _ _ _ (s₁.setTop (mkF m 43 #[.val (.int p1), .val (.int p2), .val (.int p3), .val (.int i3), .val (.int f4), .val (.int pk), .unset, .unset, .unset, .unset, .unset, .unset, .unset] [(.int pk)]))
      refine own_st (fun t k => XS.iconst X0.here hx rfl (hb hby at_43) k) ?_
      show own_G _ _ _ _ _ _ _ (s₁.setTop (mkF m 44 #[.val (.int p1), .val (.int p2), .val (.int p3), .val (.int i3), .val (.int f4), .val (.int pk), .unset, .unset, .unset, .unset, .unset, .unset, .unset] [(.int (1 : Int32)), (.int pk)]))
      by_cases k1 : pk = (1 : Int32)
      · refine own_st (fun t k => XS.icmpNo X0.here hx rfl (hb hby at_44) rfl (teq k1).2 k) ?_
        show own_G _ _ _ _ _ _ _ (s₁.setTop (mkF m 47 #[.val (.int p1), .val (.int p2), .val (.int p3), .val (.int i3), .val (.int f4), .val (.int pk), .unset, .unset, .unset, .unset, .unset, .unset, .unset] []))
        obtain ⟨T58, X58, e58, st58⟩ := getS2 X0 hx hZ hown (host := "") (Or.inl (hw _ (List.mem_of_getElem? (i := 38) rfl))) Via.refl e0 (S_SINGLE.ext O0.2) (g := (mkF m 47 #[.val (.int p1), .val (.int p2), .val (.int p3), .val (.int i3), .val (.int f4), .val (.int pk), .unset, .unset, .unset, .unset, .unset, .unset, .unset] [])) rfl (hb hby at_47)
        refine own_st (fun t k => st58 t k) ?_
        show own_G _ _ _ _ _ _ _ (T58.setTop (mkF m 50 #[.val (.int p1), .val (.int p2), .val (.int p3), .val (.int i3), .val (.int f4), .val (.int pk), .unset, .unset, .unset, .unset, .unset, .unset, .unset] [(.ref c_SINGLE)]))
        refine own_st (fun t k => XS.goto X58.here hx rfl (pc0 := 50) (pc' := 66) rfl (hb hby at_50) (by decide) (by decide) k) ?_
        show own_G _ _ _ _ _ _ _ (T58.setTop (mkF m 66 #[.val (.int p1), .val (.int p2), .val (.int p3), .val (.int i3), .val (.int f4), .val (.int pk), .unset, .unset, .unset, .unset, .unset, .unset, .unset] [(.ref c_SINGLE)]))
        refine own_st (fun t k => XS.astore X58.here hx rfl (hb hby at_66) rfl rfl (l' := #[.val (.int p1), .val (.int p2), .val (.int p3), .val (.int i3), .val (.int f4), .val (.int pk), .val (.ref c_SINGLE), .unset, .unset, .unset, .unset, .unset, .unset]) rfl k) ?_
        show own_G _ _ _ _ _ _ _ (T58.setTop (mkF m 68 #[.val (.int p1), .val (.int p2), .val (.int p3), .val (.int i3), .val (.int f4), .val (.int pk), .val (.ref c_SINGLE), .unset, .unset, .unset, .unset, .unset, .unset] []))
        obtain ⟨T59, h59, X59, e59, E59, A59, D59, -, st59⟩ := newO X58 hx hZ hown (hw _ (List.mem_of_getElem? (i := 0) rfl)) (hw _ (List.mem_of_getElem? (i := 1) rfl)) (hw _ (List.mem_of_getElem? (i := 2) rfl)) e58 (g := (mkF m 68 #[.val (.int p1), .val (.int p2), .val (.int p3), .val (.int i3), .val (.int f4), .val (.int pk), .val (.ref c_SINGLE), .unset, .unset, .unset, .unset, .unset, .unset] [])) rfl (hb hby at_68) (by decide) (by decide)
        obtain ⟨b1, g59⟩ : ∃ z, z = h0.size := ⟨_, rfl⟩
        rw [← g59] at A59 D59 st59
        refine own_st (fun t k => st59 t k) ?_
        show own_G _ _ _ _ _ _ _ (T59.setTop (mkF m 71 #[.val (.int p1), .val (.int p2), .val (.int p3), .val (.int i3), .val (.int f4), .val (.int pk), .val (.ref c_SINGLE), .unset, .unset, .unset, .unset, .unset, .unset] [(.ref b1)]))
        have ge_b1 : n0 ≤ b1 := Nat.le_trans Z0 (Nat.le_of_eq g59.symm)
        have O_60 := O0.ext E59
        have Zz61 : n0 ≤ h59.size := Nat.le_trans Z0 E59.1
        have F_integerDigits : Fld Z h59 b1 "stowage/engine/DeclaredType$Numbers" "integerDigits" "I" (.int 0) := D59 (Or.inr (hw _ (List.mem_of_getElem? (i := 15) rfl))) (ty := .int) (by decide)
        have F_fractionDigits : Fld Z h59 b1 "stowage/engine/DeclaredType$Numbers" "fractionDigits" "I" (.int 0) := D59 (Or.inr (hw _ (List.mem_of_getElem? (i := 17) rfl))) (ty := .int) (by decide)
        have F_real : Fld Z h59 b1 "stowage/engine/DeclaredType$Numbers" "real" "Lstowage/engine/Real;" .null := D59 (Or.inr (hw _ (List.mem_of_getElem? (i := 19) rfl))) (ty := (.object "stowage/engine/Real")) (by decide)
        refine own_st (fun t k => XS.dup X59.here hx rfl (hb hby at_71) rfl rfl k) ?_
        show own_G _ _ _ _ _ _ _ (T59.setTop (mkF m 72 #[.val (.int p1), .val (.int p2), .val (.int p3), .val (.int i3), .val (.int f4), .val (.int pk), .val (.ref c_SINGLE), .unset, .unset, .unset, .unset, .unset, .unset] [(.ref b1), (.ref b1)]))
        refine own_st (fun t k => XS.iloadN X59.here hx rfl (hb hby at_72) rfl k) ?_
        show own_G _ _ _ _ _ _ _ (T59.setTop (mkF m 73 #[.val (.int p1), .val (.int p2), .val (.int p3), .val (.int i3), .val (.int f4), .val (.int pk), .val (.ref c_SINGLE), .unset, .unset, .unset, .unset, .unset, .unset] [(.int i3), (.ref b1), (.ref b1)]))
        refine own_st (fun t k => XS.iload X59.here hx rfl (hb hby at_73) rfl k) ?_
        show own_G _ _ _ _ _ _ _ (T59.setTop (mkF m 75 #[.val (.int p1), .val (.int p2), .val (.int p3), .val (.int i3), .val (.int f4), .val (.int pk), .val (.ref c_SINGLE), .unset, .unset, .unset, .unset, .unset, .unset] [(.int f4), (.int i3), (.ref b1), (.ref b1)]))
        refine own_st (fun t k => XS.aload X59.here hx rfl (hb hby at_75) rfl rfl k) ?_
        show own_G _ _ _ _ _ _ _ (T59.setTop (mkF m 77 #[.val (.int p1), .val (.int p2), .val (.int p3), .val (.int i3), .val (.int f4), .val (.int pk), .val (.ref c_SINGLE), .unset, .unset, .unset, .unset, .unset, .unset] [(.ref c_SINGLE), (.int f4), (.int i3), (.ref b1), (.ref b1)]))
        obtain ⟨_, _, ⟨T62, L62, k62, n62⟩, -, X62, ⟨Lc62, hQ62, l62, y62, z62⟩, st62⟩ := X59.specialBack hx (y := (⟨"stowage/engine/DeclaredType$Numbers", "<init>", "(IILstowage/engine/Real;)V"⟩ : MethodName)) rfl hown (mvT hZ (hw _ (List.mem_of_getElem? (i := 3) rfl))) (mvT hZ (hw _ (List.mem_of_getElem? (i := 4) rfl))) (mvT hZ (hw _ (List.mem_of_getElem? (i := 5) rfl))) (by decide) (backOf (W := 1) (own_rm1 l Z a0 hw [] b1 i3 f4 c_SINGLE h59 n0 Zz61 A59 F_integerDigits F_fractionDigits F_real ge_b1) hZ (hw _ (List.mem_of_getElem? (i := 5) rfl)) (hw _ (List.mem_of_getElem? (i := 2) rfl)) (by decide) (by decide)) (g := (mkF m 77 #[.val (.int p1), .val (.int p2), .val (.int p3), .val (.int i3), .val (.int f4), .val (.int pk), .val (.ref c_SINGLE), .unset, .unset, .unset, .unset, .unset, .unset] [(.ref c_SINGLE), (.int f4), (.int i3), (.ref b1), (.ref b1)])) rfl (by rw [hml]; rfl) (Steps.refl _) (a := b1) (argsL := [(.int i3), (.int f4), (.ref c_SINGLE)]) (rest := [(.ref b1)]) (lenOf own_pd0 rfl) rfl (by show 2 * 0 + _ ≤ _; exact Nat.le_of_eq rfl) (hb hby at_77) (fun _ _ => ⟨rfl, e59, (by decide : 1 + 0 ≤ _), (by decide : 3 + 0 ≤ _)⟩)
        dsimp only [Pt.U, Pt.locs, Pt.cells, Pt.slots] at X62 l62 y62 z62 st62 hQ62
        subst l62 y62 z62
        obtain ⟨rfl, N62q, K62, Ax62, Fi62, Ff62, Fr62⟩ := hQ62
        have N62 := Fr.app N0 N62q
        refine own_st (fun t k => st62.trans k) ?_
        show own_G _ _ _ _ _ _ _ (T62.setTop (mkF m 80 #[.val (.int p1), .val (.int p2), .val (.int p3), .val (.int i3), .val (.int f4), .val (.int pk), .val (.ref c_SINGLE), .unset, .unset, .unset, .unset, .unset, .unset] [(.ref b1)]))
        have O_63 := O_60.keep K62 (allS ge_b1 all0)
        have Zz64 : n0 ≤ _ := Nat.le_trans Zz61 K62.1
        refine own_st (fun t k => XS.astore X62.here hx rfl (hb hby at_80) rfl rfl (l' := #[.val (.int p1), .val (.int p2), .val (.int p3), .val (.int i3), .val (.int f4), .val (.int pk), .val (.ref c_SINGLE), .val (.ref b1), .unset, .unset, .unset, .unset, .unset]) rfl k) ?_
        show own_G _ _ _ _ _ _ _ (T62.setTop (mkF m 82 #[.val (.int p1), .val (.int p2), .val (.int p3), .val (.int i3), .val (.int f4), .val (.int pk), .val (.ref c_SINGLE), .val (.ref b1), .unset, .unset, .unset, .unset, .unset] []))
        refine own_st (fun t k => XS.iloadN X62.here hx rfl (hb hby at_82) rfl k) ?_
        show own_G _ _ _ _ _ _ _ (T62.setTop (mkF m 83 #[.val (.int p1), .val (.int p2), .val (.int p3), .val (.int i3), .val (.int f4), .val (.int pk), .val (.ref c_SINGLE), .val (.ref b1), .unset, .unset, .unset, .unset, .unset] [(.int i3)]))
        refine own_st (fun t k => XS.bipush X62.here hx rfl (hb hby at_83) k) ?_
        show own_G _ _ _ _ _ _ _ (T62.setTop (mkF m 85 #[.val (.int p1), .val (.int p2), .val (.int p3), .val (.int i3), .val (.int f4), .val (.int pk), .val (.ref c_SINGLE), .val (.ref b1), .unset, .unset, .unset, .unset, .unset] [(.int (19 : Int32)), (.int i3)]))
        have K1 : ∀ (v8 : Int32), v8 = own_b (¬ i3 < 19) → own_G p.tables e below s (own_Q0 n0) room_1.cells room_1.slots (T62.setTop (mkF m 93 #[.val (.int p1), .val (.int p2), .val (.int p3), .val (.int i3), .val (.int f4), .val (.int pk), .val (.ref c_SINGLE), .val (.ref b1), .unset, .unset, .unset, .unset, .unset] [(.int v8)])) := by
          intro v8 hv8
          refine own_st (fun t k => XS.istore X62.here hx rfl (hb hby at_93) rfl (l' := #[.val (.int p1), .val (.int p2), .val (.int p3), .val (.int i3), .val (.int f4), .val (.int pk), .val (.ref c_SINGLE), .val (.ref b1), .val (.int v8), .unset, .unset, .unset, .unset]) rfl k) ?_
          show own_G _ _ _ _ _ _ _ (T62.setTop (mkF m 95 #[.val (.int p1), .val (.int p2), .val (.int p3), .val (.int i3), .val (.int f4), .val (.int pk), .val (.ref c_SINGLE), .val (.ref b1), .val (.int v8), .unset, .unset, .unset, .unset] []))
          refine own_st (fun t k => XS.iload X62.here hx rfl (hb hby at_95) rfl k) ?_
          show own_G _ _ _ _ _ _ _ (T62.setTop (mkF m 97 #[.val (.int p1), .val (.int p2), .val (.int p3), .val (.int i3), .val (.int f4), .val (.int pk), .val (.ref c_SINGLE), .val (.ref b1), .val (.int v8), .unset, .unset, .unset, .unset] [(.int f4)]))
          have K2 : ∀ (v9 : Int32), v9 = own_b (¬ f4 < 0) → own_G p.tables e below s (own_Q0 n0) room_1.cells room_1.slots (T62.setTop (mkF m 105 #[.val (.int p1), .val (.int p2), .val (.int p3), .val (.int i3), .val (.int f4), .val (.int pk), .val (.ref c_SINGLE), .val (.ref b1), .val (.int v8), .unset, .unset, .unset, .unset] [(.int v9)])) := by
            intro v9 hv9
            refine own_st (fun t k => XS.istore X62.here hx rfl (hb hby at_105) rfl (l' := #[.val (.int p1), .val (.int p2), .val (.int p3), .val (.int i3), .val (.int f4), .val (.int pk), .val (.ref c_SINGLE), .val (.ref b1), .val (.int v8), .val (.int v9), .unset, .unset, .unset]) rfl k) ?_
            show own_G _ _ _ _ _ _ _ (T62.setTop (mkF m 107 #[.val (.int p1), .val (.int p2), .val (.int p3), .val (.int i3), .val (.int f4), .val (.int pk), .val (.ref c_SINGLE), .val (.ref b1), .val (.int v8), .val (.int v9), .unset, .unset, .unset] []))
            refine own_st (fun t k => XS.aload X62.here hx rfl (hb hby at_107) rfl rfl k) ?_
            show own_G _ _ _ _ _ _ _ (T62.setTop (mkF m 109 #[.val (.int p1), .val (.int p2), .val (.int p3), .val (.int i3), .val (.int f4), .val (.int pk), .val (.ref c_SINGLE), .val (.ref b1), .val (.int v8), .val (.int v9), .unset, .unset, .unset] [(.ref c_SINGLE)]))
            refine own_st (fun t k => XS.ifnonnullYes X62.here hx rfl (pc0 := 109) (pc' := 116) rfl (hb hby at_109) rfl (by decide) (by decide) k) ?_
            show own_G _ _ _ _ _ _ _ (T62.setTop (mkF m 116 #[.val (.int p1), .val (.int p2), .val (.int p3), .val (.int i3), .val (.int f4), .val (.int pk), .val (.ref c_SINGLE), .val (.ref b1), .val (.int v8), .val (.int v9), .unset, .unset, .unset] []))
            refine own_st (fun t k => XS.iconst X62.here hx rfl (hb hby at_116) k) ?_
            show own_G _ _ _ _ _ _ _ (T62.setTop (mkF m 117 #[.val (.int p1), .val (.int p2), .val (.int p3), .val (.int i3), .val (.int f4), .val (.int pk), .val (.ref c_SINGLE), .val (.ref b1), .val (.int v8), .val (.int v9), .unset, .unset, .unset] [(.int (0 : Int32))]))
            refine own_st (fun t k => XS.istore X62.here hx rfl (hb hby at_117) rfl (l' := #[.val (.int p1), .val (.int p2), .val (.int p3), .val (.int i3), .val (.int f4), .val (.int pk), .val (.ref c_SINGLE), .val (.ref b1), .val (.int v8), .val (.int v9), .val (.int (0 : Int32)), .unset, .unset]) rfl k) ?_
            show own_G _ _ _ _ _ _ _ (T62.setTop (mkF m 119 #[.val (.int p1), .val (.int p2), .val (.int p3), .val (.int i3), .val (.int f4), .val (.int pk), .val (.ref c_SINGLE), .val (.ref b1), .val (.int v8), .val (.int v9), .val (.int (0 : Int32)), .unset, .unset] []))
            refine own_st (fun t k => XS.iload X62.here hx rfl (hb hby at_119) rfl k) ?_
            show own_G _ _ _ _ _ _ _ (T62.setTop (mkF m 121 #[.val (.int p1), .val (.int p2), .val (.int p3), .val (.int i3), .val (.int f4), .val (.int pk), .val (.ref c_SINGLE), .val (.ref b1), .val (.int v8), .val (.int v9), .val (.int (0 : Int32)), .unset, .unset] [(.int (0 : Int32))]))
            have K3 : ∀ (v11 : Int32), v11 = 0 → own_G p.tables e below s (own_Q0 n0) room_1.cells room_1.slots (T62.setTop (mkF m 139 #[.val (.int p1), .val (.int p2), .val (.int p3), .val (.int i3), .val (.int f4), .val (.int pk), .val (.ref c_SINGLE), .val (.ref b1), .val (.int v8), .val (.int v9), .val (.int (0 : Int32)), .unset, .unset] [(.int v11)])) := by
              intro v11 hv11
              refine own_st (fun t k => XS.istore X62.here hx rfl (hb hby at_139) rfl (l' := #[.val (.int p1), .val (.int p2), .val (.int p3), .val (.int i3), .val (.int f4), .val (.int pk), .val (.ref c_SINGLE), .val (.ref b1), .val (.int v8), .val (.int v9), .val (.int (0 : Int32)), .val (.int v11), .unset]) rfl k) ?_
              show own_G _ _ _ _ _ _ _ (T62.setTop (mkF m 141 #[.val (.int p1), .val (.int p2), .val (.int p3), .val (.int i3), .val (.int f4), .val (.int pk), .val (.ref c_SINGLE), .val (.ref b1), .val (.int v8), .val (.int v9), .val (.int (0 : Int32)), .val (.int v11), .unset] []))
              obtain ⟨T65, X65, e65, st65⟩ := getS2 X62 hx hZ hown (host := "") (Or.inl (hw _ (List.mem_of_getElem? (i := 20) rfl))) Via.refl rfl (S_ANY.ext O_63.2) (g := (mkF m 141 #[.val (.int p1), .val (.int p2), .val (.int p3), .val (.int i3), .val (.int f4), .val (.int pk), .val (.ref c_SINGLE), .val (.ref b1), .val (.int v8), .val (.int v9), .val (.int (0 : Int32)), .val (.int v11), .unset] [])) rfl (hb hby at_141)
              refine own_st (fun t k => st65 t k) ?_
              show own_G _ _ _ _ _ _ _ (T65.setTop (mkF m 144 #[.val (.int p1), .val (.int p2), .val (.int p3), .val (.int i3), .val (.int f4), .val (.int pk), .val (.ref c_SINGLE), .val (.ref b1), .val (.int v8), .val (.int v9), .val (.int (0 : Int32)), .val (.int v11), .unset] [(.ref c_ANY)]))
              obtain ⟨cq66, kq66, q66a, q66b, q66c⟩ := isOf hZ e65 (A_ANY.ext O_63.2)
              obtain ⟨_, _, ⟨T66, L66, k66, n66⟩, -, X66, ⟨Lc66, hQ66, l66, y66, z66⟩, st66⟩ := X65.virtualBack hx (y := (⟨"stowage/engine/DeclaredType$Numbers", "holdsEveryLong", "()Z"⟩ : MethodName)) (z := (⟨"stowage/engine/DeclaredType$Numbers", "holdsEveryLong", "()Z"⟩ : MethodName)) hown (mvT hZ (hw _ (List.mem_of_getElem? (i := 22) rfl))) (mvT hZ (hw _ (List.mem_of_getElem? (i := 23) rfl))) (notFace_of_selects (args := #[]) (mvT hZ (hw _ (List.mem_of_getElem? (i := 25) rfl)))) (mvT hZ (hw _ (List.mem_of_getElem? (i := 25) rfl))) (mvT hZ (hw _ (List.mem_of_getElem? (i := 24) rfl))) (by decide) (backOf (W := 0) (own_rm5 l Z a0 hw [] c_ANY 2147483647 2147483647 T62.heap n0 Zz64 (Fi_ANY.ext O_63.2) (Ff_ANY.ext O_63.2) (Fr_ANY.ext O_63.2)) hZ (hw _ (List.mem_of_getElem? (i := 26) rfl)) (hw _ (List.mem_of_getElem? (i := 2) rfl)) (by decide) (by decide)) q66a q66c (g := (mkF m 144 #[.val (.int p1), .val (.int p2), .val (.int p3), .val (.int i3), .val (.int f4), .val (.int pk), .val (.ref c_SINGLE), .val (.ref b1), .val (.int v8), .val (.int v9), .val (.int (0 : Int32)), .val (.int v11), .unset] [(.ref c_ANY)])) rfl (by rw [hml]; rfl) (Steps.refl _) (argsL := []) (rest := []) (lenOf own_pd1 rfl) rfl (by show 2 * 0 + _ ≤ _; exact Nat.le_of_eq rfl) (hb hby at_144) (fun _ _ => ⟨rfl, e65, (by decide : 1 + 0 ≤ _), (by decide : 3 + 0 ≤ _)⟩)
              dsimp only [Pt.U, Pt.locs, Pt.cells, Pt.slots] at X66 l66 y66 z66 st66 hQ66
              subst l66 y66 z66
              obtain ⟨rfl, N66q, e66⟩ := hQ66
              have N66 := Fr.app N62 N66q
              refine own_st (fun t k => st66.trans k) ?_
              show own_G _ _ _ _ _ _ _ (T66.setTop (mkF m 147 #[.val (.int p1), .val (.int p2), .val (.int p3), .val (.int i3), .val (.int f4), .val (.int pk), .val (.ref c_SINGLE), .val (.ref b1), .val (.int v8), .val (.int v9), .val (.int (0 : Int32)), .val (.int v11), .unset] [(.int (own_b (¬ (2147483647 : Int32) < 19 ∧ ¬ (2147483647 : Int32) < 0)))]))
              refine own_st (fun t k => XS.ifNo X66.here hx rfl (hb hby at_147) rfl ((if0 _ _).trans (feq (by decide)).1) k) ?_
              show own_G _ _ _ _ _ _ _ (T66.setTop (mkF m 150 #[.val (.int p1), .val (.int p2), .val (.int p3), .val (.int i3), .val (.int f4), .val (.int pk), .val (.ref c_SINGLE), .val (.ref b1), .val (.int v8), .val (.int v9), .val (.int (0 : Int32)), .val (.int v11), .unset] []))
              obtain ⟨T67, X67, e67, st67⟩ := getS2 X66 hx hZ hown (host := "") (Or.inl (hw _ (List.mem_of_getElem? (i := 27) rfl))) Via.refl e66 (S_WHOLE.ext O_63.2) (g := (mkF m 150 #[.val (.int p1), .val (.int p2), .val (.int p3), .val (.int i3), .val (.int f4), .val (.int pk), .val (.ref c_SINGLE), .val (.ref b1), .val (.int v8), .val (.int v9), .val (.int (0 : Int32)), .val (.int v11), .unset] [])) rfl (hb hby at_150)
              refine own_st (fun t k => st67 t k) ?_
              show own_G _ _ _ _ _ _ _ (T67.setTop (mkF m 153 #[.val (.int p1), .val (.int p2), .val (.int p3), .val (.int i3), .val (.int f4), .val (.int pk), .val (.ref c_SINGLE), .val (.ref b1), .val (.int v8), .val (.int v9), .val (.int (0 : Int32)), .val (.int v11), .unset] [(.ref c_WHOLE)]))
              obtain ⟨cq68, kq68, q68a, q68b, q68c⟩ := isOf hZ e67 (A_WHOLE.ext O_63.2)
              obtain ⟨_, _, ⟨T68, L68, k68, n68⟩, -, X68, ⟨Lc68, hQ68, l68, y68, z68⟩, st68⟩ := X67.virtualBack hx (y := (⟨"stowage/engine/DeclaredType$Numbers", "holdsEveryLong", "()Z"⟩ : MethodName)) (z := (⟨"stowage/engine/DeclaredType$Numbers", "holdsEveryLong", "()Z"⟩ : MethodName)) hown (mvT hZ (hw _ (List.mem_of_getElem? (i := 22) rfl))) (mvT hZ (hw _ (List.mem_of_getElem? (i := 23) rfl))) (notFace_of_selects (args := #[]) (mvT hZ (hw _ (List.mem_of_getElem? (i := 25) rfl)))) (mvT hZ (hw _ (List.mem_of_getElem? (i := 25) rfl))) (mvT hZ (hw _ (List.mem_of_getElem? (i := 24) rfl))) (by decide) (backOf (W := 0) (own_rm5 l Z a0 hw [] c_WHOLE 2147483647 0 T62.heap n0 Zz64 (Fi_WHOLE.ext O_63.2) (Ff_WHOLE.ext O_63.2) (Fr_WHOLE.ext O_63.2)) hZ (hw _ (List.mem_of_getElem? (i := 26) rfl)) (hw _ (List.mem_of_getElem? (i := 2) rfl)) (by decide) (by decide)) q68a q68c (g := (mkF m 153 #[.val (.int p1), .val (.int p2), .val (.int p3), .val (.int i3), .val (.int f4), .val (.int pk), .val (.ref c_SINGLE), .val (.ref b1), .val (.int v8), .val (.int v9), .val (.int (0 : Int32)), .val (.int v11), .unset] [(.ref c_WHOLE)])) rfl (by rw [hml]; rfl) (Steps.refl _) (argsL := []) (rest := []) (lenOf own_pd1 rfl) rfl (by show 2 * 0 + _ ≤ _; exact Nat.le_of_eq rfl) (hb hby at_153) (fun _ _ => ⟨rfl, e67, (by decide : 1 + 0 ≤ _), (by decide : 3 + 0 ≤ _)⟩)
              dsimp only [Pt.U, Pt.locs, Pt.cells, Pt.slots] at X68 l68 y68 z68 st68 hQ68
              subst l68 y68 z68
              obtain ⟨rfl, N68q, e68⟩ := hQ68
              have N68 := Fr.app N66 N68q
              refine own_st (fun t k => st68.trans k) ?_
              show own_G _ _ _ _ _ _ _ (T68.setTop (mkF m 156 #[.val (.int p1), .val (.int p2), .val (.int p3), .val (.int i3), .val (.int f4), .val (.int pk), .val (.ref c_SINGLE), .val (.ref b1), .val (.int v8), .val (.int v9), .val (.int (0 : Int32)), .val (.int v11), .unset] [(.int (own_b (¬ (2147483647 : Int32) < 19 ∧ ¬ (0 : Int32) < 0)))]))
              refine own_st (fun t k => XS.ifNo X68.here hx rfl (hb hby at_156) rfl ((if0 _ _).trans (feq (by decide)).1) k) ?_
              show own_G _ _ _ _ _ _ _ (T68.setTop (mkF m 159 #[.val (.int p1), .val (.int p2), .val (.int p3), .val (.int i3), .val (.int f4), .val (.int pk), .val (.ref c_SINGLE), .val (.ref b1), .val (.int v8), .val (.int v9), .val (.int (0 : Int32)), .val (.int v11), .unset] []))
              obtain ⟨T69, X69, e69, st69⟩ := getS2 X68 hx hZ hown (host := "") (Or.inl (hw _ (List.mem_of_getElem? (i := 29) rfl))) Via.refl e68 (S_DOUBLE.ext O_63.2) (g := (mkF m 159 #[.val (.int p1), .val (.int p2), .val (.int p3), .val (.int i3), .val (.int f4), .val (.int pk), .val (.ref c_SINGLE), .val (.ref b1), .val (.int v8), .val (.int v9), .val (.int (0 : Int32)), .val (.int v11), .unset] [])) rfl (hb hby at_159)
              refine own_st (fun t k => st69 t k) ?_
              show own_G _ _ _ _ _ _ _ (T69.setTop (mkF m 162 #[.val (.int p1), .val (.int p2), .val (.int p3), .val (.int i3), .val (.int f4), .val (.int pk), .val (.ref c_SINGLE), .val (.ref b1), .val (.int v8), .val (.int v9), .val (.int (0 : Int32)), .val (.int v11), .unset] [(.ref c_DOUBLE)]))
              obtain ⟨_, _, ⟨T70, L70, k70, n70⟩, -, X70, ⟨Lc70, hQ70, l70, y70, z70⟩, st70⟩ := Jvm.LawKit.callS X69 hx (y := (⟨"stowage/engine/DeclaredType$Numbers", "of", "(Lstowage/engine/Real;)Lstowage/engine/DeclaredType$Numbers;"⟩ : MethodName)) hown (mvT hZ (hw _ (List.mem_of_getElem? (i := 32) rfl))) (mvT hZ (hw _ (List.mem_of_getElem? (i := 33) rfl))) (mvT hZ (hw _ (List.mem_of_getElem? (i := 2) rfl))) (mvT hZ (hw _ (List.mem_of_getElem? (i := 34) rfl))) (by decide) (backOf (W := 0) (own_rm6 l Z a0 hw [] c_DOUBLE T62.heap n0 Zz64) hZ (hw _ (List.mem_of_getElem? (i := 34) rfl)) (hw _ (List.mem_of_getElem? (i := 2) rfl)) (by decide) (by decide)) (g := (mkF m 162 #[.val (.int p1), .val (.int p2), .val (.int p3), .val (.int i3), .val (.int f4), .val (.int pk), .val (.ref c_SINGLE), .val (.ref b1), .val (.int v8), .val (.int v9), .val (.int (0 : Int32)), .val (.int v11), .unset] [(.ref c_DOUBLE)])) rfl (by rw [hml]; rfl) (argsL := [(.ref c_DOUBLE)]) (rest := []) (lenOf own_pd2 rfl) rfl (by show 2 * 0 + _ ≤ _; exact Nat.le_of_eq rfl) (hb hby at_162) (fun _ _ => ⟨rfl, e69, (by decide : 1 + 1 ≤ _), (by decide : 3 + 3 ≤ _)⟩)
              dsimp only [Pt.U, Pt.locs, Pt.cells, Pt.slots] at X70 l70 y70 z70 st70 hQ70
              subst l70 y70 z70
              obtain ⟨n_DOUBLE, rfl, N70q, K70, Ax70, Fi70, Ff70, Fr70⟩ := hQ70
              have N70 := Fr.app N68 N70q
              refine own_st (fun t k => st70 t k) ?_
              show own_G _ _ _ _ _ _ _ (T70.setTop (mkF m 165 #[.val (.int p1), .val (.int p2), .val (.int p3), .val (.int i3), .val (.int f4), .val (.int pk), .val (.ref c_SINGLE), .val (.ref b1), .val (.int v8), .val (.int v9), .val (.int (0 : Int32)), .val (.int v11), .unset] [(.ref n_DOUBLE)]))
              have O_71 := O_63.keep K70 all0
              have E_72 := Ax62.keep K70
              have Fi_73 := Fi62.keep K70 nin0
              have Ff_74 := Ff62.keep K70 nin0
              have Fr_75 := Fr62.keep K70 nin0
              have Zz76 : n0 ≤ _ := Nat.le_trans Zz64 K70.1
              obtain ⟨cq77, kq77, q77a, q77b, q77c⟩ := isOf hZ rfl Ax70
              obtain ⟨_, _, ⟨T77, L77, k77, n77⟩, -, X77, ⟨Lc77, hQ77, l77, y77, z77⟩, st77⟩ := X70.virtualBack hx (y := (⟨"stowage/engine/DeclaredType$Numbers", "holdsEveryLong", "()Z"⟩ : MethodName)) (z := (⟨"stowage/engine/DeclaredType$Numbers", "holdsEveryLong", "()Z"⟩ : MethodName)) hown (mvT hZ (hw _ (List.mem_of_getElem? (i := 22) rfl))) (mvT hZ (hw _ (List.mem_of_getElem? (i := 23) rfl))) (notFace_of_selects (args := #[]) (mvT hZ (hw _ (List.mem_of_getElem? (i := 25) rfl)))) (mvT hZ (hw _ (List.mem_of_getElem? (i := 25) rfl))) (mvT hZ (hw _ (List.mem_of_getElem? (i := 24) rfl))) (by decide) (backOf (W := 0) (own_rm4 l Z a0 hw [] n_DOUBLE 2147483647 2147483647 c_DOUBLE T70.heap n0 Zz76 Fi70 Ff70 Fr70) hZ (hw _ (List.mem_of_getElem? (i := 26) rfl)) (hw _ (List.mem_of_getElem? (i := 2) rfl)) (by decide) (by decide)) q77a q77c (g := (mkF m 165 #[.val (.int p1), .val (.int p2), .val (.int p3), .val (.int i3), .val (.int f4), .val (.int pk), .val (.ref c_SINGLE), .val (.ref b1), .val (.int v8), .val (.int v9), .val (.int (0 : Int32)), .val (.int v11), .unset] [(.ref n_DOUBLE)])) rfl (by rw [hml]; rfl) (Steps.refl _) (argsL := []) (rest := []) (lenOf own_pd1 rfl) rfl (by show 2 * 0 + _ ≤ _; exact Nat.le_of_eq rfl) (hb hby at_165) (fun _ _ => ⟨rfl, rfl, (by decide : 2 + 0 ≤ _), (by decide : 6 + 0 ≤ _)⟩)
              dsimp only [Pt.U, Pt.locs, Pt.cells, Pt.slots] at X77 l77 y77 z77 st77 hQ77
              subst l77 y77 z77
              obtain ⟨rfl, N77q, e77⟩ := hQ77
              have N77 := Fr.app N70 N77q
              refine own_st (fun t k => st77.trans k) ?_
              show own_G _ _ _ _ _ _ _ (T77.setTop (mkF m 168 #[.val (.int p1), .val (.int p2), .val (.int p3), .val (.int i3), .val (.int f4), .val (.int pk), .val (.ref c_SINGLE), .val (.ref b1), .val (.int v8), .val (.int v9), .val (.int (0 : Int32)), .val (.int v11), .unset] [(.int (0 : Int32))]))
              refine own_st (fun t k => XS.ifNo X77.here hx rfl (hb hby at_168) rfl ((if0 _ _).trans (teq rfl).2) k) ?_
              show own_G _ _ _ _ _ _ _ (T77.setTop (mkF m 171 #[.val (.int p1), .val (.int p2), .val (.int p3), .val (.int i3), .val (.int f4), .val (.int pk), .val (.ref c_SINGLE), .val (.ref b1), .val (.int v8), .val (.int v9), .val (.int (0 : Int32)), .val (.int v11), .unset] []))
              obtain ⟨T78, X78, e78, st78⟩ := getS2 X77 hx hZ hown (host := "") (Or.inl (hw _ (List.mem_of_getElem? (i := 38) rfl))) Via.refl e77 (S_SINGLE.ext O_71.2) (g := (mkF m 171 #[.val (.int p1), .val (.int p2), .val (.int p3), .val (.int i3), .val (.int f4), .val (.int pk), .val (.ref c_SINGLE), .val (.ref b1), .val (.int v8), .val (.int v9), .val (.int (0 : Int32)), .val (.int v11), .unset] [])) rfl (hb hby at_171)
              refine own_st (fun t k => st78 t k) ?_
              show own_G _ _ _ _ _ _ _ (T78.setTop (mkF m 174 #[.val (.int p1), .val (.int p2), .val (.int p3), .val (.int i3), .val (.int f4), .val (.int pk), .val (.ref c_SINGLE), .val (.ref b1), .val (.int v8), .val (.int v9), .val (.int (0 : Int32)), .val (.int v11), .unset] [(.ref c_SINGLE)]))
              obtain ⟨_, _, ⟨T79, L79, k79, n79⟩, -, X79, ⟨Lc79, hQ79, l79, y79, z79⟩, st79⟩ := Jvm.LawKit.callS X78 hx (y := (⟨"stowage/engine/DeclaredType$Numbers", "of", "(Lstowage/engine/Real;)Lstowage/engine/DeclaredType$Numbers;"⟩ : MethodName)) hown (mvT hZ (hw _ (List.mem_of_getElem? (i := 32) rfl))) (mvT hZ (hw _ (List.mem_of_getElem? (i := 33) rfl))) (mvT hZ (hw _ (List.mem_of_getElem? (i := 2) rfl))) (mvT hZ (hw _ (List.mem_of_getElem? (i := 34) rfl))) (by decide) (backOf (W := 0) (own_rm6 l Z a0 hw [] c_SINGLE T70.heap n0 Zz76) hZ (hw _ (List.mem_of_getElem? (i := 34) rfl)) (hw _ (List.mem_of_getElem? (i := 2) rfl)) (by decide) (by decide)) (g := (mkF m 174 #[.val (.int p1), .val (.int p2), .val (.int p3), .val (.int i3), .val (.int f4), .val (.int pk), .val (.ref c_SINGLE), .val (.ref b1), .val (.int v8), .val (.int v9), .val (.int (0 : Int32)), .val (.int v11), .unset] [(.ref c_SINGLE)])) rfl (by rw [hml]; rfl) (argsL := [(.ref c_SINGLE)]) (rest := []) (lenOf own_pd2 rfl) rfl (by show 2 * 0 + _ ≤ _; exact Nat.le_of_eq rfl) (hb hby at_174) (fun _ _ => ⟨rfl, e78, (by decide : 2 + 1 ≤ _), (by decide : 6 + 3 ≤ _)⟩)
              dsimp only [Pt.U, Pt.locs, Pt.cells, Pt.slots] at X79 l79 y79 z79 st79 hQ79
              subst l79 y79 z79
              obtain ⟨n_SINGLE, rfl, N79q, K79, Ax79, Fi79, Ff79, Fr79⟩ := hQ79
              have N79 := Fr.app N77 N79q
              refine own_st (fun t k => st79 t k) ?_
              show own_G _ _ _ _ _ _ _ (T79.setTop (mkF m 177 #[.val (.int p1), .val (.int p2), .val (.int p3), .val (.int i3), .val (.int f4), .val (.int pk), .val (.ref c_SINGLE), .val (.ref b1), .val (.int v8), .val (.int v9), .val (.int (0 : Int32)), .val (.int v11), .unset] [(.ref n_SINGLE)]))
              have O_80 := O_71.keep K79 all0
              have E_81 := E_72.keep K79
              have Fi_82 := Fi_73.keep K79 nin0
              have Ff_83 := Ff_74.keep K79 nin0
              have Fr_84 := Fr_75.keep K79 nin0
              have Zz85 : n0 ≤ _ := Nat.le_trans Zz76 K79.1
              obtain ⟨cq86, kq86, q86a, q86b, q86c⟩ := isOf hZ rfl Ax79
              obtain ⟨_, _, ⟨T86, L86, k86, n86⟩, -, X86, ⟨Lc86, hQ86, l86, y86, z86⟩, st86⟩ := X79.virtualBack hx (y := (⟨"stowage/engine/DeclaredType$Numbers", "holdsEveryLong", "()Z"⟩ : MethodName)) (z := (⟨"stowage/engine/DeclaredType$Numbers", "holdsEveryLong", "()Z"⟩ : MethodName)) hown (mvT hZ (hw _ (List.mem_of_getElem? (i := 22) rfl))) (mvT hZ (hw _ (List.mem_of_getElem? (i := 23) rfl))) (notFace_of_selects (args := #[]) (mvT hZ (hw _ (List.mem_of_getElem? (i := 25) rfl)))) (mvT hZ (hw _ (List.mem_of_getElem? (i := 25) rfl))) (mvT hZ (hw _ (List.mem_of_getElem? (i := 24) rfl))) (by decide) (backOf (W := 0) (own_rm4 l Z a0 hw [] n_SINGLE 2147483647 2147483647 c_SINGLE T79.heap n0 Zz85 Fi79 Ff79 Fr79) hZ (hw _ (List.mem_of_getElem? (i := 26) rfl)) (hw _ (List.mem_of_getElem? (i := 2) rfl)) (by decide) (by decide)) q86a q86c (g := (mkF m 177 #[.val (.int p1), .val (.int p2), .val (.int p3), .val (.int i3), .val (.int f4), .val (.int pk), .val (.ref c_SINGLE), .val (.ref b1), .val (.int v8), .val (.int v9), .val (.int (0 : Int32)), .val (.int v11), .unset] [(.ref n_SINGLE)])) rfl (by rw [hml]; rfl) (Steps.refl _) (argsL := []) (rest := []) (lenOf own_pd1 rfl) rfl (by show 2 * 0 + _ ≤ _; exact Nat.le_of_eq rfl) (hb hby at_177) (fun _ _ => ⟨rfl, rfl, (by decide : 3 + 0 ≤ _), (by decide : 9 + 0 ≤ _)⟩)
              dsimp only [Pt.U, Pt.locs, Pt.cells, Pt.slots] at X86 l86 y86 z86 st86 hQ86
              subst l86 y86 z86
              obtain ⟨rfl, N86q, e86⟩ := hQ86
              have N86 := Fr.app N79 N86q
              refine own_st (fun t k => st86.trans k) ?_
              show own_G _ _ _ _ _ _ _ (T86.setTop (mkF m 180 #[.val (.int p1), .val (.int p2), .val (.int p3), .val (.int i3), .val (.int f4), .val (.int pk), .val (.ref c_SINGLE), .val (.ref b1), .val (.int v8), .val (.int v9), .val (.int (0 : Int32)), .val (.int v11), .unset] [(.int (0 : Int32))]))
              refine own_st (fun t k => XS.ifNo X86.here hx rfl (hb hby at_180) rfl ((if0 _ _).trans (teq rfl).2) k) ?_
              show own_G _ _ _ _ _ _ _ (T86.setTop (mkF m 183 #[.val (.int p1), .val (.int p2), .val (.int p3), .val (.int i3), .val (.int f4), .val (.int pk), .val (.ref c_SINGLE), .val (.ref b1), .val (.int v8), .val (.int v9), .val (.int (0 : Int32)), .val (.int v11), .unset] []))
              refine own_st (fun t k => XS.iconst X86.here hx rfl (hb hby at_183) k) ?_
              show own_G _ _ _ _ _ _ _ (T86.setTop (mkF m 184 #[.val (.int p1), .val (.int p2), .val (.int p3), .val (.int i3), .val (.int f4), .val (.int pk), .val (.ref c_SINGLE), .val (.ref b1), .val (.int v8), .val (.int v9), .val (.int (0 : Int32)), .val (.int v11), .unset] [(.int (1 : Int32))]))
              refine own_st (fun t k => XS.goto X86.here hx rfl (pc0 := 184) (pc' := 188) rfl (hb hby at_184) (by decide) (by decide) k) ?_
              show own_G _ _ _ _ _ _ _ (T86.setTop (mkF m 188 #[.val (.int p1), .val (.int p2), .val (.int p3), .val (.int i3), .val (.int f4), .val (.int pk), .val (.ref c_SINGLE), .val (.ref b1), .val (.int v8), .val (.int v9), .val (.int (0 : Int32)), .val (.int v11), .unset] [(.int (1 : Int32))]))
              refine own_st (fun t k => XS.istore X86.here hx rfl (hb hby at_188) rfl (l' := #[.val (.int p1), .val (.int p2), .val (.int p3), .val (.int i3), .val (.int f4), .val (.int pk), .val (.ref c_SINGLE), .val (.ref b1), .val (.int v8), .val (.int v9), .val (.int (0 : Int32)), .val (.int v11), .val (.int (1 : Int32))]) rfl k) ?_
              show own_G _ _ _ _ _ _ _ (T86.setTop (mkF m 190 #[.val (.int p1), .val (.int p2), .val (.int p3), .val (.int i3), .val (.int f4), .val (.int pk), .val (.ref c_SINGLE), .val (.ref b1), .val (.int v8), .val (.int v9), .val (.int (0 : Int32)), .val (.int v11), .val (.int (1 : Int32))] []))
              refine own_st (fun t k => XS.aload X86.here hx rfl (hb hby at_190) rfl rfl k) ?_
              show own_G _ _ _ _ _ _ _ (T86.setTop (mkF m 192 #[.val (.int p1), .val (.int p2), .val (.int p3), .val (.int i3), .val (.int f4), .val (.int pk), .val (.ref c_SINGLE), .val (.ref b1), .val (.int v8), .val (.int v9), .val (.int (0 : Int32)), .val (.int v11), .val (.int (1 : Int32))] [(.ref b1)]))
              obtain ⟨cq87, kq87, q87a, q87b, q87c⟩ := isOf hZ e86 E_81
              obtain ⟨_, _, ⟨T87, L87, k87, n87⟩, -, X87, ⟨Lc87, hQ87, l87, y87, z87⟩, st87⟩ := X86.virtualBack hx (y := (⟨"stowage/engine/DeclaredType$Numbers", "holdsEveryLong", "()Z"⟩ : MethodName)) (z := (⟨"stowage/engine/DeclaredType$Numbers", "holdsEveryLong", "()Z"⟩ : MethodName)) hown (mvT hZ (hw _ (List.mem_of_getElem? (i := 22) rfl))) (mvT hZ (hw _ (List.mem_of_getElem? (i := 23) rfl))) (notFace_of_selects (args := #[]) (mvT hZ (hw _ (List.mem_of_getElem? (i := 25) rfl)))) (mvT hZ (hw _ (List.mem_of_getElem? (i := 25) rfl))) (mvT hZ (hw _ (List.mem_of_getElem? (i := 24) rfl))) (by decide) (backOf (W := 0) (own_rm4 l Z a0 hw [] b1 i3 f4 c_SINGLE T79.heap n0 Zz85 Fi_82 Ff_83 Fr_84) hZ (hw _ (List.mem_of_getElem? (i := 26) rfl)) (hw _ (List.mem_of_getElem? (i := 2) rfl)) (by decide) (by decide)) q87a q87c (g := (mkF m 192 #[.val (.int p1), .val (.int p2), .val (.int p3), .val (.int i3), .val (.int f4), .val (.int pk), .val (.ref c_SINGLE), .val (.ref b1), .val (.int v8), .val (.int v9), .val (.int (0 : Int32)), .val (.int v11), .val (.int (1 : Int32))] [(.ref b1)])) rfl (by rw [hml]; rfl) (Steps.refl _) (argsL := []) (rest := []) (lenOf own_pd1 rfl) rfl (by show 2 * 0 + _ ≤ _; exact Nat.le_of_eq rfl) (hb hby at_192) (fun _ _ => ⟨rfl, e86, (by decide : 3 + 0 ≤ _), (by decide : 9 + 0 ≤ _)⟩)
              dsimp only [Pt.U, Pt.locs, Pt.cells, Pt.slots] at X87 l87 y87 z87 st87 hQ87
              subst l87 y87 z87
              obtain ⟨rfl, N87q, e87⟩ := hQ87
              have N87 := Fr.app N86 N87q
              refine own_st (fun t k => st87.trans k) ?_
              show own_G _ _ _ _ _ _ _ (T87.setTop (mkF m 195 #[.val (.int p1), .val (.int p2), .val (.int p3), .val (.int i3), .val (.int f4), .val (.int pk), .val (.ref c_SINGLE), .val (.ref b1), .val (.int v8), .val (.int v9), .val (.int (0 : Int32)), .val (.int v11), .val (.int (1 : Int32))] [(.int (0 : Int32))]))
              refine own_st (fun t k => XS.iload X87.here hx rfl (hb hby at_195) rfl k) ?_
              show own_G _ _ _ _ _ _ _ (T87.setTop (mkF m 197 #[.val (.int p1), .val (.int p2), .val (.int p3), .val (.int i3), .val (.int f4), .val (.int pk), .val (.ref c_SINGLE), .val (.ref b1), .val (.int v8), .val (.int v9), .val (.int (0 : Int32)), .val (.int v11), .val (.int (1 : Int32))] [(.int v11), (.int (0 : Int32))]))
              refine own_st (fun t k => XS.icmpNo X87.here hx rfl (hb hby at_197) rfl (teq hv11.symm).2 k) ?_
              show own_G _ _ _ _ _ _ _ (T87.setTop (mkF m 200 #[.val (.int p1), .val (.int p2), .val (.int p3), .val (.int i3), .val (.int f4), .val (.int pk), .val (.ref c_SINGLE), .val (.ref b1), .val (.int v8), .val (.int v9), .val (.int (0 : Int32)), .val (.int v11), .val (.int (1 : Int32))] []))
              refine own_st (fun t k => XS.iload X87.here hx rfl (hb hby at_200) rfl k) ?_
              show own_G _ _ _ _ _ _ _ (T87.setTop (mkF m 202 #[.val (.int p1), .val (.int p2), .val (.int p3), .val (.int i3), .val (.int f4), .val (.int pk), .val (.ref c_SINGLE), .val (.ref b1), .val (.int v8), .val (.int v9), .val (.int (0 : Int32)), .val (.int v11), .val (.int (1 : Int32))] [(.int (1 : Int32))]))
              refine own_st (fun t k => XS.ifNo X87.here hx rfl (hb hby at_202) rfl ((if0 _ _).trans (feq (by decide)).1) k) ?_
              show own_G _ _ _ _ _ _ _ (T87.setTop (mkF m 205 #[.val (.int p1), .val (.int p2), .val (.int p3), .val (.int i3), .val (.int f4), .val (.int pk), .val (.ref c_SINGLE), .val (.ref b1), .val (.int v8), .val (.int v9), .val (.int (0 : Int32)), .val (.int v11), .val (.int (1 : Int32))] []))
              refine own_st (fun t k => XS.iconst X87.here hx rfl (hb hby at_205) k) ?_
              show own_G _ _ _ _ _ _ _ (T87.setTop (mkF m 206 #[.val (.int p1), .val (.int p2), .val (.int p3), .val (.int i3), .val (.int f4), .val (.int pk), .val (.ref c_SINGLE), .val (.ref b1), .val (.int v8), .val (.int v9), .val (.int (0 : Int32)), .val (.int v11), .val (.int (1 : Int32))] [(.int (1 : Int32))]))
              refine own_st (fun t k => XS.goto X87.here hx rfl (pc0 := 206) (pc' := 210) rfl (hb hby at_206) (by decide) (by decide) k) ?_
              show own_G _ _ _ _ _ _ _ (T87.setTop (mkF m 210 #[.val (.int p1), .val (.int p2), .val (.int p3), .val (.int i3), .val (.int f4), .val (.int pk), .val (.ref c_SINGLE), .val (.ref b1), .val (.int v8), .val (.int v9), .val (.int (0 : Int32)), .val (.int v11), .val (.int (1 : Int32))] [(.int (1 : Int32))]))
              exact own_retN (t := .boolean) (by simp) X87 hx Bd.returns (BodyLoose.notSynchronized Bd) (hb hby at_210) (by decide) (by decide) ⟨rfl, N87⟩
            refine own_st (fun t k => XS.ifYes X62.here hx rfl (pc0 := 121) (pc' := 138) rfl (hb hby at_121) rfl ((if0 _ _).trans (teq rfl).1) (by decide) (by decide) k) ?_
            show own_G _ _ _ _ _ _ _ (T62.setTop (mkF m 138 #[.val (.int p1), .val (.int p2), .val (.int p3), .val (.int i3), .val (.int f4), .val (.int pk), .val (.ref c_SINGLE), .val (.ref b1), .val (.int v8), .val (.int v9), .val (.int (0 : Int32)), .unset, .unset] []))
            refine own_st (fun t k => XS.iconst X62.here hx rfl (hb hby at_138) k) ?_
            show own_G _ _ _ _ _ _ _ (T62.setTop (mkF m 139 #[.val (.int p1), .val (.int p2), .val (.int p3), .val (.int i3), .val (.int f4), .val (.int pk), .val (.ref c_SINGLE), .val (.ref b1), .val (.int v8), .val (.int v9), .val (.int (0 : Int32)), .unset, .unset] [(.int (0 : Int32))]))
            exact K3 _ rfl
          by_cases z : f4 < (0 : Int32)
          · refine own_st (fun t k => XS.ifYes X62.here hx rfl (pc0 := 97) (pc' := 104) rfl (hb hby at_97) rfl ((if0 _ _).trans (tlt z).1) (by decide) (by decide) k) ?_
            show own_G _ _ _ _ _ _ _ (T62.setTop (mkF m 104 #[.val (.int p1), .val (.int p2), .val (.int p3), .val (.int i3), .val (.int f4), .val (.int pk), .val (.ref c_SINGLE), .val (.ref b1), .val (.int v8), .unset, .unset, .unset, .unset] []))
            refine own_st (fun t k => XS.iconst X62.here hx rfl (hb hby at_104) k) ?_
            show own_G _ _ _ _ _ _ _ (T62.setTop (mkF m 105 #[.val (.int p1), .val (.int p2), .val (.int p3), .val (.int i3), .val (.int f4), .val (.int pk), .val (.ref c_SINGLE), .val (.ref b1), .val (.int v8), .unset, .unset, .unset, .unset] [(.int (0 : Int32))]))
            exact K2 _ (by rw [own_b, if_neg fun q => q z])
          · refine own_st (fun t k => XS.ifNo X62.here hx rfl (hb hby at_97) rfl ((if0 _ _).trans (flt z).1) k) ?_
            show own_G _ _ _ _ _ _ _ (T62.setTop (mkF m 100 #[.val (.int p1), .val (.int p2), .val (.int p3), .val (.int i3), .val (.int f4), .val (.int pk), .val (.ref c_SINGLE), .val (.ref b1), .val (.int v8), .unset, .unset, .unset, .unset] []))
            refine own_st (fun t k => XS.iconst X62.here hx rfl (hb hby at_100) k) ?_
            show own_G _ _ _ _ _ _ _ (T62.setTop (mkF m 101 #[.val (.int p1), .val (.int p2), .val (.int p3), .val (.int i3), .val (.int f4), .val (.int pk), .val (.ref c_SINGLE), .val (.ref b1), .val (.int v8), .unset, .unset, .unset, .unset] [(.int (1 : Int32))]))
            refine own_st (fun t k => XS.goto X62.here hx rfl (pc0 := 101) (pc' := 105) rfl (hb hby at_101) (by decide) (by decide) k) ?_
            show own_G _ _ _ _ _ _ _ (T62.setTop (mkF m 105 #[.val (.int p1), .val (.int p2), .val (.int p3), .val (.int i3), .val (.int f4), .val (.int pk), .val (.ref c_SINGLE), .val (.ref b1), .val (.int v8), .unset, .unset, .unset, .unset] [(.int (1 : Int32))]))
            exact K2 _ (by rw [own_b, if_pos z])
        by_cases z : i3 < (19 : Int32)
        · refine own_st (fun t k => XS.icmpYes X62.here hx rfl (pc0 := 85) (pc' := 92) rfl (hb hby at_85) rfl (tlt z).1 (by decide) (by decide) k) ?_
          show own_G _ _ _ _ _ _ _ (T62.setTop (mkF m 92 #[.val (.int p1), .val (.int p2), .val (.int p3), .val (.int i3), .val (.int f4), .val (.int pk), .val (.ref c_SINGLE), .val (.ref b1), .unset, .unset, .unset, .unset, .unset] []))
          refine own_st (fun t k => XS.iconst X62.here hx rfl (hb hby at_92) k) ?_
          show own_G _ _ _ _ _ _ _ (T62.setTop (mkF m 93 #[.val (.int p1), .val (.int p2), .val (.int p3), .val (.int i3), .val (.int f4), .val (.int pk), .val (.ref c_SINGLE), .val (.ref b1), .unset, .unset, .unset, .unset, .unset] [(.int (0 : Int32))]))
          exact K1 _ (by rw [own_b, if_neg fun q => q z])
        · refine own_st (fun t k => XS.icmpNo X62.here hx rfl (hb hby at_85) rfl (flt z).1 k) ?_
          show own_G _ _ _ _ _ _ _ (T62.setTop (mkF m 88 #[.val (.int p1), .val (.int p2), .val (.int p3), .val (.int i3), .val (.int f4), .val (.int pk), .val (.ref c_SINGLE), .val (.ref b1), .unset, .unset, .unset, .unset, .unset] []))
          refine own_st (fun t k => XS.iconst X62.here hx rfl (hb hby at_88) k) ?_
          show own_G _ _ _ _ _ _ _ (T62.setTop (mkF m 89 #[.val (.int p1), .val (.int p2), .val (.int p3), .val (.int i3), .val (.int f4), .val (.int pk), .val (.ref c_SINGLE), .val (.ref b1), .unset, .unset, .unset, .unset, .unset] [(.int (1 : Int32))]))
          refine own_st (fun t k => XS.goto X62.here hx rfl (pc0 := 89) (pc' := 93) rfl (hb hby at_89) (by decide) (by decide) k) ?_
          show own_G _ _ _ _ _ _ _ (T62.setTop (mkF m 93 #[.val (.int p1), .val (.int p2), .val (.int p3), .val (.int i3), .val (.int f4), .val (.int pk), .val (.ref c_SINGLE), .val (.ref b1), .unset, .unset, .unset, .unset, .unset] [(.int (1 : Int32))]))
          exact K1 _ (by rw [own_b, if_pos z])
      · refine own_st (fun t k => XS.icmpYes X0.here hx rfl (pc0 := 44) (pc' := 53) rfl (hb hby at_44) rfl (feq k1).2 (by decide) (by decide) k) ?_
        show own_G _ _ _ _ _ _ _ (s₁.setTop (mkF m 53 #[.val (.int p1), .val (.int p2), .val (.int p3), .val (.int i3), .val (.int f4), .val (.int pk), .unset, .unset, .unset, .unset, .unset, .unset, .unset] []))
        refine own_st (fun t k => XS.iload X0.here hx rfl (hb hby at_53) rfl k) ?_
        show own_G _ _ _ _ _ _ _ (s₁.setTop (mkF m 55 #[.val (.int p1), .val (.int p2), .val (.int p3), .val (.int i3), .val (.int f4), .val (.int pk), .unset, .unset, .unset, .unset, .unset, .unset, .unset] [(.int pk)]))
        refine own_st (fun t k => XS.iconst X0.here hx rfl (hb hby at_55) k) ?_
        show own_G _ _ _ _ _ _ _ (s₁.setTop (mkF m 56 #[.val (.int p1), .val (.int p2), .val (.int p3), .val (.int i3), .val (.int f4), .val (.int pk), .unset, .unset, .unset, .unset, .unset, .unset, .unset] [(.int (2 : Int32)), (.int pk)]))
        by_cases k2 : pk = (2 : Int32)
        · refine own_st (fun t k => XS.icmpNo X0.here hx rfl (hb hby at_56) rfl (teq k2).2 k) ?_
          show own_G _ _ _ _ _ _ _ (s₁.setTop (mkF m 59 #[.val (.int p1), .val (.int p2), .val (.int p3), .val (.int i3), .val (.int f4), .val (.int pk), .unset, .unset, .unset, .unset, .unset, .unset, .unset] []))
          obtain ⟨T88, X88, e88, st88⟩ := getS2 X0 hx hZ hown (host := "") (Or.inl (hw _ (List.mem_of_getElem? (i := 29) rfl))) Via.refl e0 (S_DOUBLE.ext O0.2) (g := (mkF m 59 #[.val (.int p1), .val (.int p2), .val (.int p3), .val (.int i3), .val (.int f4), .val (.int pk), .unset, .unset, .unset, .unset, .unset, .unset, .unset] [])) rfl (hb hby at_59)
          refine own_st (fun t k => st88 t k) ?_
          show own_G _ _ _ _ _ _ _ (T88.setTop (mkF m 62 #[.val (.int p1), .val (.int p2), .val (.int p3), .val (.int i3), .val (.int f4), .val (.int pk), .unset, .unset, .unset, .unset, .unset, .unset, .unset] [(.ref c_DOUBLE)]))
          refine own_st (fun t k => XS.goto X88.here hx rfl (pc0 := 62) (pc' := 66) rfl (hb hby at_62) (by decide) (by decide) k) ?_
          show own_G _ _ _ _ _ _ _ (T88.setTop (mkF m 66 #[.val (.int p1), .val (.int p2), .val (.int p3), .val (.int i3), .val (.int f4), .val (.int pk), .unset, .unset, .unset, .unset, .unset, .unset, .unset] [(.ref c_DOUBLE)]))
          refine own_st (fun t k => XS.astore X88.here hx rfl (hb hby at_66) rfl rfl (l' := #[.val (.int p1), .val (.int p2), .val (.int p3), .val (.int i3), .val (.int f4), .val (.int pk), .val (.ref c_DOUBLE), .unset, .unset, .unset, .unset, .unset, .unset]) rfl k) ?_
          show own_G _ _ _ _ _ _ _ (T88.setTop (mkF m 68 #[.val (.int p1), .val (.int p2), .val (.int p3), .val (.int i3), .val (.int f4), .val (.int pk), .val (.ref c_DOUBLE), .unset, .unset, .unset, .unset, .unset, .unset] []))
          obtain ⟨T89, h89, X89, e89, E89, A89, D89, -, st89⟩ := newO X88 hx hZ hown (hw _ (List.mem_of_getElem? (i := 0) rfl)) (hw _ (List.mem_of_getElem? (i := 1) rfl)) (hw _ (List.mem_of_getElem? (i := 2) rfl)) e88 (g := (mkF m 68 #[.val (.int p1), .val (.int p2), .val (.int p3), .val (.int i3), .val (.int f4), .val (.int pk), .val (.ref c_DOUBLE), .unset, .unset, .unset, .unset, .unset, .unset] [])) rfl (hb hby at_68) (by decide) (by decide)
          obtain ⟨b1, g89⟩ : ∃ z, z = h0.size := ⟨_, rfl⟩
          rw [← g89] at A89 D89 st89
          refine own_st (fun t k => st89 t k) ?_
          show own_G _ _ _ _ _ _ _ (T89.setTop (mkF m 71 #[.val (.int p1), .val (.int p2), .val (.int p3), .val (.int i3), .val (.int f4), .val (.int pk), .val (.ref c_DOUBLE), .unset, .unset, .unset, .unset, .unset, .unset] [(.ref b1)]))
          have ge_b1 : n0 ≤ b1 := Nat.le_trans Z0 (Nat.le_of_eq g89.symm)
          have O_90 := O0.ext E89
          have Zz91 : n0 ≤ h89.size := Nat.le_trans Z0 E89.1
          have F_integerDigits : Fld Z h89 b1 "stowage/engine/DeclaredType$Numbers" "integerDigits" "I" (.int 0) := D89 (Or.inr (hw _ (List.mem_of_getElem? (i := 15) rfl))) (ty := .int) (by decide)
          have F_fractionDigits : Fld Z h89 b1 "stowage/engine/DeclaredType$Numbers" "fractionDigits" "I" (.int 0) := D89 (Or.inr (hw _ (List.mem_of_getElem? (i := 17) rfl))) (ty := .int) (by decide)
          have F_real : Fld Z h89 b1 "stowage/engine/DeclaredType$Numbers" "real" "Lstowage/engine/Real;" .null := D89 (Or.inr (hw _ (List.mem_of_getElem? (i := 19) rfl))) (ty := (.object "stowage/engine/Real")) (by decide)
          refine own_st (fun t k => XS.dup X89.here hx rfl (hb hby at_71) rfl rfl k) ?_
          show own_G _ _ _ _ _ _ _ (T89.setTop (mkF m 72 #[.val (.int p1), .val (.int p2), .val (.int p3), .val (.int i3), .val (.int f4), .val (.int pk), .val (.ref c_DOUBLE), .unset, .unset, .unset, .unset, .unset, .unset] [(.ref b1), (.ref b1)]))
          refine own_st (fun t k => XS.iloadN X89.here hx rfl (hb hby at_72) rfl k) ?_
          show own_G _ _ _ _ _ _ _ (T89.setTop (mkF m 73 #[.val (.int p1), .val (.int p2), .val (.int p3), .val (.int i3), .val (.int f4), .val (.int pk), .val (.ref c_DOUBLE), .unset, .unset, .unset, .unset, .unset, .unset] [(.int i3), (.ref b1), (.ref b1)]))
          refine own_st (fun t k => XS.iload X89.here hx rfl (hb hby at_73) rfl k) ?_
          show own_G _ _ _ _ _ _ _ (T89.setTop (mkF m 75 #[.val (.int p1), .val (.int p2), .val (.int p3), .val (.int i3), .val (.int f4), .val (.int pk), .val (.ref c_DOUBLE), .unset, .unset, .unset, .unset, .unset, .unset] [(.int f4), (.int i3), (.ref b1), (.ref b1)]))
          refine own_st (fun t k => XS.aload X89.here hx rfl (hb hby at_75) rfl rfl k) ?_
          show own_G _ _ _ _ _ _ _ (T89.setTop (mkF m 77 #[.val (.int p1), .val (.int p2), .val (.int p3), .val (.int i3), .val (.int f4), .val (.int pk), .val (.ref c_DOUBLE), .unset, .unset, .unset, .unset, .unset, .unset] [(.ref c_DOUBLE), (.int f4), (.int i3), (.ref b1), (.ref b1)]))
          obtain ⟨_, _, ⟨T92, L92, k92, n92⟩, -, X92, ⟨Lc92, hQ92, l92, y92, z92⟩, st92⟩ := X89.specialBack hx (y := (⟨"stowage/engine/DeclaredType$Numbers", "<init>", "(IILstowage/engine/Real;)V"⟩ : MethodName)) rfl hown (mvT hZ (hw _ (List.mem_of_getElem? (i := 3) rfl))) (mvT hZ (hw _ (List.mem_of_getElem? (i := 4) rfl))) (mvT hZ (hw _ (List.mem_of_getElem? (i := 5) rfl))) (by decide) (backOf (W := 1) (own_rm1 l Z a0 hw [] b1 i3 f4 c_DOUBLE h89 n0 Zz91 A89 F_integerDigits F_fractionDigits F_real ge_b1) hZ (hw _ (List.mem_of_getElem? (i := 5) rfl)) (hw _ (List.mem_of_getElem? (i := 2) rfl)) (by decide) (by decide)) (g := (mkF m 77 #[.val (.int p1), .val (.int p2), .val (.int p3), .val (.int i3), .val (.int f4), .val (.int pk), .val (.ref c_DOUBLE), .unset, .unset, .unset, .unset, .unset, .unset] [(.ref c_DOUBLE), (.int f4), (.int i3), (.ref b1), (.ref b1)])) rfl (by rw [hml]; rfl) (Steps.refl _) (a := b1) (argsL := [(.int i3), (.int f4), (.ref c_DOUBLE)]) (rest := [(.ref b1)]) (lenOf own_pd0 rfl) rfl (by show 2 * 0 + _ ≤ _; exact Nat.le_of_eq rfl) (hb hby at_77) (fun _ _ => ⟨rfl, e89, (by decide : 1 + 0 ≤ _), (by decide : 3 + 0 ≤ _)⟩)
          dsimp only [Pt.U, Pt.locs, Pt.cells, Pt.slots] at X92 l92 y92 z92 st92 hQ92
          subst l92 y92 z92
          obtain ⟨rfl, N92q, K92, Ax92, Fi92, Ff92, Fr92⟩ := hQ92
          have N92 := Fr.app N0 N92q
          refine own_st (fun t k => st92.trans k) ?_
          show own_G _ _ _ _ _ _ _ (T92.setTop (mkF m 80 #[.val (.int p1), .val (.int p2), .val (.int p3), .val (.int i3), .val (.int f4), .val (.int pk), .val (.ref c_DOUBLE), .unset, .unset, .unset, .unset, .unset, .unset] [(.ref b1)]))
          have O_93 := O_90.keep K92 (allS ge_b1 all0)
          have Zz94 : n0 ≤ _ := Nat.le_trans Zz91 K92.1
          refine own_st (fun t k => XS.astore X92.here hx rfl (hb hby at_80) rfl rfl (l' := #[.val (.int p1), .val (.int p2), .val (.int p3), .val (.int i3), .val (.int f4), .val (.int pk), .val (.ref c_DOUBLE), .val (.ref b1), .unset, .unset, .unset, .unset, .unset]) rfl k) ?_
          show own_G _ _ _ _ _ _ _ (T92.setTop (mkF m 82 #[.val (.int p1), .val (.int p2), .val (.int p3), .val (.int i3), .val (.int f4), .val (.int pk), .val (.ref c_DOUBLE), .val (.ref b1), .unset, .unset, .unset, .unset, .unset] []))
          refine own_st (fun t k => XS.iloadN X92.here hx rfl (hb hby at_82) rfl k) ?_
          show own_G _ _ _ _ _ _ _ (T92.setTop (mkF m 83 #[.val (.int p1), .val (.int p2), .val (.int p3), .val (.int i3), .val (.int f4), .val (.int pk), .val (.ref c_DOUBLE), .val (.ref b1), .unset, .unset, .unset, .unset, .unset] [(.int i3)]))
          refine own_st (fun t k => XS.bipush X92.here hx rfl (hb hby at_83) k) ?_
          show own_G _ _ _ _ _ _ _ (T92.setTop (mkF m 85 #[.val (.int p1), .val (.int p2), .val (.int p3), .val (.int i3), .val (.int f4), .val (.int pk), .val (.ref c_DOUBLE), .val (.ref b1), .unset, .unset, .unset, .unset, .unset] [(.int (19 : Int32)), (.int i3)]))
          have K1 : ∀ (v8 : Int32), v8 = own_b (¬ i3 < 19) → own_G p.tables e below s (own_Q0 n0) room_1.cells room_1.slots (T92.setTop (mkF m 93 #[.val (.int p1), .val (.int p2), .val (.int p3), .val (.int i3), .val (.int f4), .val (.int pk), .val (.ref c_DOUBLE), .val (.ref b1), .unset, .unset, .unset, .unset, .unset] [(.int v8)])) := by
            intro v8 hv8
            refine own_st (fun t k => XS.istore X92.here hx rfl (hb hby at_93) rfl (l' := #[.val (.int p1), .val (.int p2), .val (.int p3), .val (.int i3), .val (.int f4), .val (.int pk), .val (.ref c_DOUBLE), .val (.ref b1), .val (.int v8), .unset, .unset, .unset, .unset]) rfl k) ?_
            show own_G _ _ _ _ _ _ _ (T92.setTop (mkF m 95 #[.val (.int p1), .val (.int p2), .val (.int p3), .val (.int i3), .val (.int f4), .val (.int pk), .val (.ref c_DOUBLE), .val (.ref b1), .val (.int v8), .unset, .unset, .unset, .unset] []))
            refine own_st (fun t k => XS.iload X92.here hx rfl (hb hby at_95) rfl k) ?_
            show own_G _ _ _ _ _ _ _ (T92.setTop (mkF m 97 #[.val (.int p1), .val (.int p2), .val (.int p3), .val (.int i3), .val (.int f4), .val (.int pk), .val (.ref c_DOUBLE), .val (.ref b1), .val (.int v8), .unset, .unset, .unset, .unset] [(.int f4)]))
            have K2 : ∀ (v9 : Int32), v9 = own_b (¬ f4 < 0) → own_G p.tables e below s (own_Q0 n0) room_1.cells room_1.slots (T92.setTop (mkF m 105 #[.val (.int p1), .val (.int p2), .val (.int p3), .val (.int i3), .val (.int f4), .val (.int pk), .val (.ref c_DOUBLE), .val (.ref b1), .val (.int v8), .unset, .unset, .unset, .unset] [(.int v9)])) := by
              intro v9 hv9
              refine own_st (fun t k => XS.istore X92.here hx rfl (hb hby at_105) rfl (l' := #[.val (.int p1), .val (.int p2), .val (.int p3), .val (.int i3), .val (.int f4), .val (.int pk), .val (.ref c_DOUBLE), .val (.ref b1), .val (.int v8), .val (.int v9), .unset, .unset, .unset]) rfl k) ?_
              show own_G _ _ _ _ _ _ _ (T92.setTop (mkF m 107 #[.val (.int p1), .val (.int p2), .val (.int p3), .val (.int i3), .val (.int f4), .val (.int pk), .val (.ref c_DOUBLE), .val (.ref b1), .val (.int v8), .val (.int v9), .unset, .unset, .unset] []))
              refine own_st (fun t k => XS.aload X92.here hx rfl (hb hby at_107) rfl rfl k) ?_
              show own_G _ _ _ _ _ _ _ (T92.setTop (mkF m 109 #[.val (.int p1), .val (.int p2), .val (.int p3), .val (.int i3), .val (.int f4), .val (.int pk), .val (.ref c_DOUBLE), .val (.ref b1), .val (.int v8), .val (.int v9), .unset, .unset, .unset] [(.ref c_DOUBLE)]))
              refine own_st (fun t k => XS.ifnonnullYes X92.here hx rfl (pc0 := 109) (pc' := 116) rfl (hb hby at_109) rfl (by decide) (by decide) k) ?_
              show own_G _ _ _ _ _ _ _ (T92.setTop (mkF m 116 #[.val (.int p1), .val (.int p2), .val (.int p3), .val (.int i3), .val (.int f4), .val (.int pk), .val (.ref c_DOUBLE), .val (.ref b1), .val (.int v8), .val (.int v9), .unset, .unset, .unset] []))
              refine own_st (fun t k => XS.iconst X92.here hx rfl (hb hby at_116) k) ?_
              show own_G _ _ _ _ _ _ _ (T92.setTop (mkF m 117 #[.val (.int p1), .val (.int p2), .val (.int p3), .val (.int i3), .val (.int f4), .val (.int pk), .val (.ref c_DOUBLE), .val (.ref b1), .val (.int v8), .val (.int v9), .unset, .unset, .unset] [(.int (0 : Int32))]))
              refine own_st (fun t k => XS.istore X92.here hx rfl (hb hby at_117) rfl (l' := #[.val (.int p1), .val (.int p2), .val (.int p3), .val (.int i3), .val (.int f4), .val (.int pk), .val (.ref c_DOUBLE), .val (.ref b1), .val (.int v8), .val (.int v9), .val (.int (0 : Int32)), .unset, .unset]) rfl k) ?_
              show own_G _ _ _ _ _ _ _ (T92.setTop (mkF m 119 #[.val (.int p1), .val (.int p2), .val (.int p3), .val (.int i3), .val (.int f4), .val (.int pk), .val (.ref c_DOUBLE), .val (.ref b1), .val (.int v8), .val (.int v9), .val (.int (0 : Int32)), .unset, .unset] []))
              refine own_st (fun t k => XS.iload X92.here hx rfl (hb hby at_119) rfl k) ?_
              show own_G _ _ _ _ _ _ _ (T92.setTop (mkF m 121 #[.val (.int p1), .val (.int p2), .val (.int p3), .val (.int i3), .val (.int f4), .val (.int pk), .val (.ref c_DOUBLE), .val (.ref b1), .val (.int v8), .val (.int v9), .val (.int (0 : Int32)), .unset, .unset] [(.int (0 : Int32))]))
              have K3 : ∀ (v11 : Int32), v11 = 0 → own_G p.tables e below s (own_Q0 n0) room_1.cells room_1.slots (T92.setTop (mkF m 139 #[.val (.int p1), .val (.int p2), .val (.int p3), .val (.int i3), .val (.int f4), .val (.int pk), .val (.ref c_DOUBLE), .val (.ref b1), .val (.int v8), .val (.int v9), .val (.int (0 : Int32)), .unset, .unset] [(.int v11)])) := by
                intro v11 hv11
                refine own_st (fun t k => XS.istore X92.here hx rfl (hb hby at_139) rfl (l' := #[.val (.int p1), .val (.int p2), .val (.int p3), .val (.int i3), .val (.int f4), .val (.int pk), .val (.ref c_DOUBLE), .val (.ref b1), .val (.int v8), .val (.int v9), .val (.int (0 : Int32)), .val (.int v11), .unset]) rfl k) ?_
                show own_G _ _ _ _ _ _ _ (T92.setTop (mkF m 141 #[.val (.int p1), .val (.int p2), .val (.int p3), .val (.int i3), .val (.int f4), .val (.int pk), .val (.ref c_DOUBLE), .val (.ref b1), .val (.int v8), .val (.int v9), .val (.int (0 : Int32)), .val (.int v11), .unset] []))
                obtain ⟨T95, X95, e95, st95⟩ := getS2 X92 hx hZ hown (host := "") (Or.inl (hw _ (List.mem_of_getElem? (i := 20) rfl))) Via.refl rfl (S_ANY.ext O_93.2) (g := (mkF m 141 #[.val (.int p1), .val (.int p2), .val (.int p3), .val (.int i3), .val (.int f4), .val (.int pk), .val (.ref c_DOUBLE), .val (.ref b1), .val (.int v8), .val (.int v9), .val (.int (0 : Int32)), .val (.int v11), .unset] [])) rfl (hb hby at_141)
                refine own_st (fun t k => st95 t k) ?_
                show own_G _ _ _ _ _ _ _ (T95.setTop (mkF m 144 #[.val (.int p1), .val (.int p2), .val (.int p3), .val (.int i3), .val (.int f4), .val (.int pk), .val (.ref c_DOUBLE), .val (.ref b1), .val (.int v8), .val (.int v9), .val (.int (0 : Int32)), .val (.int v11), .unset] [(.ref c_ANY)]))
                obtain ⟨cq96, kq96, q96a, q96b, q96c⟩ := isOf hZ e95 (A_ANY.ext O_93.2)
                obtain ⟨_, _, ⟨T96, L96, k96, n96⟩, -, X96, ⟨Lc96, hQ96, l96, y96, z96⟩, st96⟩ := X95.virtualBack hx (y := (⟨"stowage/engine/DeclaredType$Numbers", "holdsEveryLong", "()Z"⟩ : MethodName)) (z := (⟨"stowage/engine/DeclaredType$Numbers", "holdsEveryLong", "()Z"⟩ : MethodName)) hown (mvT hZ (hw _ (List.mem_of_getElem? (i := 22) rfl))) (mvT hZ (hw _ (List.mem_of_getElem? (i := 23) rfl))) (notFace_of_selects (args := #[]) (mvT hZ (hw _ (List.mem_of_getElem? (i := 25) rfl)))) (mvT hZ (hw _ (List.mem_of_getElem? (i := 25) rfl))) (mvT hZ (hw _ (List.mem_of_getElem? (i := 24) rfl))) (by decide) (backOf (W := 0) (own_rm5 l Z a0 hw [] c_ANY 2147483647 2147483647 T92.heap n0 Zz94 (Fi_ANY.ext O_93.2) (Ff_ANY.ext O_93.2) (Fr_ANY.ext O_93.2)) hZ (hw _ (List.mem_of_getElem? (i := 26) rfl)) (hw _ (List.mem_of_getElem? (i := 2) rfl)) (by decide) (by decide)) q96a q96c (g := (mkF m 144 #[.val (.int p1), .val (.int p2), .val (.int p3), .val (.int i3), .val (.int f4), .val (.int pk), .val (.ref c_DOUBLE), .val (.ref b1), .val (.int v8), .val (.int v9), .val (.int (0 : Int32)), .val (.int v11), .unset] [(.ref c_ANY)])) rfl (by rw [hml]; rfl) (Steps.refl _) (argsL := []) (rest := []) (lenOf own_pd1 rfl) rfl (by show 2 * 0 + _ ≤ _; exact Nat.le_of_eq rfl) (hb hby at_144) (fun _ _ => ⟨rfl, e95, (by decide : 1 + 0 ≤ _), (by decide : 3 + 0 ≤ _)⟩)
                dsimp only [Pt.U, Pt.locs, Pt.cells, Pt.slots] at X96 l96 y96 z96 st96 hQ96
                subst l96 y96 z96
                obtain ⟨rfl, N96q, e96⟩ := hQ96
                have N96 := Fr.app N92 N96q
                refine own_st (fun t k => st96.trans k) ?_
                show own_G _ _ _ _ _ _ _ (T96.setTop (mkF m 147 #[.val (.int p1), .val (.int p2), .val (.int p3), .val (.int i3), .val (.int f4), .val (.int pk), .val (.ref c_DOUBLE), .val (.ref b1), .val (.int v8), .val (.int v9), .val (.int (0 : Int32)), .val (.int v11), .unset] [(.int (own_b (¬ (2147483647 : Int32) < 19 ∧ ¬ (2147483647 : Int32) < 0)))]))
                refine own_st (fun t k => XS.ifNo X96.here hx rfl (hb hby at_147) rfl ((if0 _ _).trans (feq (by decide)).1) k) ?_
                show own_G _ _ _ _ _ _ _ (T96.setTop (mkF m 150 #[.val (.int p1), .val (.int p2), .val (.int p3), .val (.int i3), .val (.int f4), .val (.int pk), .val (.ref c_DOUBLE), .val (.ref b1), .val (.int v8), .val (.int v9), .val (.int (0 : Int32)), .val (.int v11), .unset] []))
                obtain ⟨T97, X97, e97, st97⟩ := getS2 X96 hx hZ hown (host := "") (Or.inl (hw _ (List.mem_of_getElem? (i := 27) rfl))) Via.refl e96 (S_WHOLE.ext O_93.2) (g := (mkF m 150 #[.val (.int p1), .val (.int p2), .val (.int p3), .val (.int i3), .val (.int f4), .val (.int pk), .val (.ref c_DOUBLE), .val (.ref b1), .val (.int v8), .val (.int v9), .val (.int (0 : Int32)), .val (.int v11), .unset] [])) rfl (hb hby at_150)
                refine own_st (fun t k => st97 t k) ?_
                show own_G _ _ _ _ _ _ _ (T97.setTop (mkF m 153 #[.val (.int p1), .val (.int p2), .val (.int p3), .val (.int i3), .val (.int f4), .val (.int pk), .val (.ref c_DOUBLE), .val (.ref b1), .val (.int v8), .val (.int v9), .val (.int (0 : Int32)), .val (.int v11), .unset] [(.ref c_WHOLE)]))
                obtain ⟨cq98, kq98, q98a, q98b, q98c⟩ := isOf hZ e97 (A_WHOLE.ext O_93.2)
                obtain ⟨_, _, ⟨T98, L98, k98, n98⟩, -, X98, ⟨Lc98, hQ98, l98, y98, z98⟩, st98⟩ := X97.virtualBack hx (y := (⟨"stowage/engine/DeclaredType$Numbers", "holdsEveryLong", "()Z"⟩ : MethodName)) (z := (⟨"stowage/engine/DeclaredType$Numbers", "holdsEveryLong", "()Z"⟩ : MethodName)) hown (mvT hZ (hw _ (List.mem_of_getElem? (i := 22) rfl))) (mvT hZ (hw _ (List.mem_of_getElem? (i := 23) rfl))) (notFace_of_selects (args := #[]) (mvT hZ (hw _ (List.mem_of_getElem? (i := 25) rfl)))) (mvT hZ (hw _ (List.mem_of_getElem? (i := 25) rfl))) (mvT hZ (hw _ (List.mem_of_getElem? (i := 24) rfl))) (by decide) (backOf (W := 0) (own_rm5 l Z a0 hw [] c_WHOLE 2147483647 0 T92.heap n0 Zz94 (Fi_WHOLE.ext O_93.2) (Ff_WHOLE.ext O_93.2) (Fr_WHOLE.ext O_93.2)) hZ (hw _ (List.mem_of_getElem? (i := 26) rfl)) (hw _ (List.mem_of_getElem? (i := 2) rfl)) (by decide) (by decide)) q98a q98c (g := (mkF m 153 #[.val (.int p1), .val (.int p2), .val (.int p3), .val (.int i3), .val (.int f4), .val (.int pk), .val (.ref c_DOUBLE), .val (.ref b1), .val (.int v8), .val (.int v9), .val (.int (0 : Int32)), .val (.int v11), .unset] [(.ref c_WHOLE)])) rfl (by rw [hml]; rfl) (Steps.refl _) (argsL := []) (rest := []) (lenOf own_pd1 rfl) rfl (by show 2 * 0 + _ ≤ _; exact Nat.le_of_eq rfl) (hb hby at_153) (fun _ _ => ⟨rfl, e97, (by decide : 1 + 0 ≤ _), (by decide : 3 + 0 ≤ _)⟩)
                dsimp only [Pt.U, Pt.locs, Pt.cells, Pt.slots] at X98 l98 y98 z98 st98 hQ98
                subst l98 y98 z98
                obtain ⟨rfl, N98q, e98⟩ := hQ98
                have N98 := Fr.app N96 N98q
                refine own_st (fun t k => st98.trans k) ?_
                show own_G _ _ _ _ _ _ _ (T98.setTop (mkF m 156 #[.val (.int p1), .val (.int p2), .val (.int p3), .val (.int i3), .val (.int f4), .val (.int pk), .val (.ref c_DOUBLE), .val (.ref b1), .val (.int v8), .val (.int v9), .val (.int (0 : Int32)), .val (.int v11), .unset] [(.int (own_b (¬ (2147483647 : Int32) < 19 ∧ ¬ (0 : Int32) < 0)))]))
                refine own_st (fun t k => XS.ifNo X98.here hx rfl (hb hby at_156) rfl ((if0 _ _).trans (feq (by decide)).1) k) ?_
                show own_G _ _ _ _ _ _ _ (T98.setTop (mkF m 159 #[.val (.int p1), .val (.int p2), .val (.int p3), .val (.int i3), .val (.int f4), .val (.int pk), .val (.ref c_DOUBLE), .val (.ref b1), .val (.int v8), .val (.int v9), .val (.int (0 : Int32)), .val (.int v11), .unset] []))
                obtain ⟨T99, X99, e99, st99⟩ := getS2 X98 hx hZ hown (host := "") (Or.inl (hw _ (List.mem_of_getElem? (i := 29) rfl))) Via.refl e98 (S_DOUBLE.ext O_93.2) (g := (mkF m 159 #[.val (.int p1), .val (.int p2), .val (.int p3), .val (.int i3), .val (.int f4), .val (.int pk), .val (.ref c_DOUBLE), .val (.ref b1), .val (.int v8), .val (.int v9), .val (.int (0 : Int32)), .val (.int v11), .unset] [])) rfl (hb hby at_159)
                refine own_st (fun t k => st99 t k) ?_
                show own_G _ _ _ _ _ _ _ (T99.setTop (mkF m 162 #[.val (.int p1), .val (.int p2), .val (.int p3), .val (.int i3), .val (.int f4), .val (.int pk), .val (.ref c_DOUBLE), .val (.ref b1), .val (.int v8), .val (.int v9), .val (.int (0 : Int32)), .val (.int v11), .unset] [(.ref c_DOUBLE)]))
                obtain ⟨_, _, ⟨T100, L100, k100, n100⟩, -, X100, ⟨Lc100, hQ100, l100, y100, z100⟩, st100⟩ := Jvm.LawKit.callS X99 hx (y := (⟨"stowage/engine/DeclaredType$Numbers", "of", "(Lstowage/engine/Real;)Lstowage/engine/DeclaredType$Numbers;"⟩ : MethodName)) hown (mvT hZ (hw _ (List.mem_of_getElem? (i := 32) rfl))) (mvT hZ (hw _ (List.mem_of_getElem? (i := 33) rfl))) (mvT hZ (hw _ (List.mem_of_getElem? (i := 2) rfl))) (mvT hZ (hw _ (List.mem_of_getElem? (i := 34) rfl))) (by decide) (backOf (W := 0) (own_rm6 l Z a0 hw [] c_DOUBLE T92.heap n0 Zz94) hZ (hw _ (List.mem_of_getElem? (i := 34) rfl)) (hw _ (List.mem_of_getElem? (i := 2) rfl)) (by decide) (by decide)) (g := (mkF m 162 #[.val (.int p1), .val (.int p2), .val (.int p3), .val (.int i3), .val (.int f4), .val (.int pk), .val (.ref c_DOUBLE), .val (.ref b1), .val (.int v8), .val (.int v9), .val (.int (0 : Int32)), .val (.int v11), .unset] [(.ref c_DOUBLE)])) rfl (by rw [hml]; rfl) (argsL := [(.ref c_DOUBLE)]) (rest := []) (lenOf own_pd2 rfl) rfl (by show 2 * 0 + _ ≤ _; exact Nat.le_of_eq rfl) (hb hby at_162) (fun _ _ => ⟨rfl, e99, (by decide : 1 + 1 ≤ _), (by decide : 3 + 3 ≤ _)⟩)
                dsimp only [Pt.U, Pt.locs, Pt.cells, Pt.slots] at X100 l100 y100 z100 st100 hQ100
                subst l100 y100 z100
                obtain ⟨n_DOUBLE, rfl, N100q, K100, Ax100, Fi100, Ff100, Fr100⟩ := hQ100
                have N100 := Fr.app N98 N100q
                refine own_st (fun t k => st100 t k) ?_
                show own_G _ _ _ _ _ _ _ (T100.setTop (mkF m 165 #[.val (.int p1), .val (.int p2), .val (.int p3), .val (.int i3), .val (.int f4), .val (.int pk), .val (.ref c_DOUBLE), .val (.ref b1), .val (.int v8), .val (.int v9), .val (.int (0 : Int32)), .val (.int v11), .unset] [(.ref n_DOUBLE)]))
                have O_101 := O_93.keep K100 all0
                have E_102 := Ax92.keep K100
                have Fi_103 := Fi92.keep K100 nin0
                have Ff_104 := Ff92.keep K100 nin0
                have Fr_105 := Fr92.keep K100 nin0
                have Zz106 : n0 ≤ _ := Nat.le_trans Zz94 K100.1
                obtain ⟨cq107, kq107, q107a, q107b, q107c⟩ := isOf hZ rfl Ax100
                obtain ⟨_, _, ⟨T107, L107, k107, n107⟩, -, X107, ⟨Lc107, hQ107, l107, y107, z107⟩, st107⟩ := X100.virtualBack hx (y := (⟨"stowage/engine/DeclaredType$Numbers", "holdsEveryLong", "()Z"⟩ : MethodName)) (z := (⟨"stowage/engine/DeclaredType$Numbers", "holdsEveryLong", "()Z"⟩ : MethodName)) hown (mvT hZ (hw _ (List.mem_of_getElem? (i := 22) rfl))) (mvT hZ (hw _ (List.mem_of_getElem? (i := 23) rfl))) (notFace_of_selects (args := #[]) (mvT hZ (hw _ (List.mem_of_getElem? (i := 25) rfl)))) (mvT hZ (hw _ (List.mem_of_getElem? (i := 25) rfl))) (mvT hZ (hw _ (List.mem_of_getElem? (i := 24) rfl))) (by decide) (backOf (W := 0) (own_rm4 l Z a0 hw [] n_DOUBLE 2147483647 2147483647 c_DOUBLE T100.heap n0 Zz106 Fi100 Ff100 Fr100) hZ (hw _ (List.mem_of_getElem? (i := 26) rfl)) (hw _ (List.mem_of_getElem? (i := 2) rfl)) (by decide) (by decide)) q107a q107c (g := (mkF m 165 #[.val (.int p1), .val (.int p2), .val (.int p3), .val (.int i3), .val (.int f4), .val (.int pk), .val (.ref c_DOUBLE), .val (.ref b1), .val (.int v8), .val (.int v9), .val (.int (0 : Int32)), .val (.int v11), .unset] [(.ref n_DOUBLE)])) rfl (by rw [hml]; rfl) (Steps.refl _) (argsL := []) (rest := []) (lenOf own_pd1 rfl) rfl (by show 2 * 0 + _ ≤ _; exact Nat.le_of_eq rfl) (hb hby at_165) (fun _ _ => ⟨rfl, rfl, (by decide : 2 + 0 ≤ _), (by decide : 6 + 0 ≤ _)⟩)
                dsimp only [Pt.U, Pt.locs, Pt.cells, Pt.slots] at X107 l107 y107 z107 st107 hQ107
                subst l107 y107 z107
                obtain ⟨rfl, N107q, e107⟩ := hQ107
                have N107 := Fr.app N100 N107q
                refine own_st (fun t k => st107.trans k) ?_
                show own_G _ _ _ _ _ _ _ (T107.setTop (mkF m 168 #[.val (.int p1), .val (.int p2), .val (.int p3), .val (.int i3), .val (.int f4), .val (.int pk), .val (.ref c_DOUBLE), .val (.ref b1), .val (.int v8), .val (.int v9), .val (.int (0 : Int32)), .val (.int v11), .unset] [(.int (0 : Int32))]))
                refine own_st (fun t k => XS.ifNo X107.here hx rfl (hb hby at_168) rfl ((if0 _ _).trans (teq rfl).2) k) ?_
                show own_G _ _ _ _ _ _ _ (T107.setTop (mkF m 171 #[.val (.int p1), .val (.int p2), .val (.int p3), .val (.int i3), .val (.int f4), .val (.int pk), .val (.ref c_DOUBLE), .val (.ref b1), .val (.int v8), .val (.int v9), .val (.int (0 : Int32)), .val (.int v11), .unset] []))
                obtain ⟨T108, X108, e108, st108⟩ := getS2 X107 hx hZ hown (host := "") (Or.inl (hw _ (List.mem_of_getElem? (i := 38) rfl))) Via.refl e107 (S_SINGLE.ext O_101.2) (g := (mkF m 171 #[.val (.int p1), .val (.int p2), .val (.int p3), .val (.int i3), .val (.int f4), .val (.int pk), .val (.ref c_DOUBLE), .val (.ref b1), .val (.int v8), .val (.int v9), .val (.int (0 : Int32)), .val (.int v11), .unset] [])) rfl (hb hby at_171)
                refine own_st (fun t k => st108 t k) ?_
                show own_G _ _ _ _ _ _ _ (T108.setTop (mkF m 174 #[.val (.int p1), .val (.int p2), .val (.int p3), .val (.int i3), .val (.int f4), .val (.int pk), .val (.ref c_DOUBLE), .val (.ref b1), .val (.int v8), .val (.int v9), .val (.int (0 : Int32)), .val (.int v11), .unset] [(.ref c_SINGLE)]))
                obtain ⟨_, _, ⟨T109, L109, k109, n109⟩, -, X109, ⟨Lc109, hQ109, l109, y109, z109⟩, st109⟩ := Jvm.LawKit.callS X108 hx (y := (⟨"stowage/engine/DeclaredType$Numbers", "of", "(Lstowage/engine/Real;)Lstowage/engine/DeclaredType$Numbers;"⟩ : MethodName)) hown (mvT hZ (hw _ (List.mem_of_getElem? (i := 32) rfl))) (mvT hZ (hw _ (List.mem_of_getElem? (i := 33) rfl))) (mvT hZ (hw _ (List.mem_of_getElem? (i := 2) rfl))) (mvT hZ (hw _ (List.mem_of_getElem? (i := 34) rfl))) (by decide) (backOf (W := 0) (own_rm6 l Z a0 hw [] c_SINGLE T100.heap n0 Zz106) hZ (hw _ (List.mem_of_getElem? (i := 34) rfl)) (hw _ (List.mem_of_getElem? (i := 2) rfl)) (by decide) (by decide)) (g := (mkF m 174 #[.val (.int p1), .val (.int p2), .val (.int p3), .val (.int i3), .val (.int f4), .val (.int pk), .val (.ref c_DOUBLE), .val (.ref b1), .val (.int v8), .val (.int v9), .val (.int (0 : Int32)), .val (.int v11), .unset] [(.ref c_SINGLE)])) rfl (by rw [hml]; rfl) (argsL := [(.ref c_SINGLE)]) (rest := []) (lenOf own_pd2 rfl) rfl (by show 2 * 0 + _ ≤ _; exact Nat.le_of_eq rfl) (hb hby at_174) (fun _ _ => ⟨rfl, e108, (by decide : 2 + 1 ≤ _), (by decide : 6 + 3 ≤ _)⟩)
                dsimp only [Pt.U, Pt.locs, Pt.cells, Pt.slots] at X109 l109 y109 z109 st109 hQ109
                subst l109 y109 z109
                obtain ⟨n_SINGLE, rfl, N109q, K109, Ax109, Fi109, Ff109, Fr109⟩ := hQ109
                have N109 := Fr.app N107 N109q
                refine own_st (fun t k => st109 t k) ?_
                show own_G _ _ _ _ _ _ _ (T109.setTop (mkF m 177 #[.val (.int p1), .val (.int p2), .val (.int p3), .val (.int i3), .val (.int f4), .val (.int pk), .val (.ref c_DOUBLE), .val (.ref b1), .val (.int v8), .val (.int v9), .val (.int (0 : Int32)), .val (.int v11), .unset] [(.ref n_SINGLE)]))
                have O_110 := O_101.keep K109 all0
                have E_111 := E_102.keep K109
                have Fi_112 := Fi_103.keep K109 nin0
                have Ff_113 := Ff_104.keep K109 nin0
                have Fr_114 := Fr_105.keep K109 nin0
                have Zz115 : n0 ≤ _ := Nat.le_trans Zz106 K109.1
                obtain ⟨cq116, kq116, q116a, q116b, q116c⟩ := isOf hZ rfl Ax109
                obtain ⟨_, _, ⟨T116, L116, k116, n116⟩, -, X116, ⟨Lc116, hQ116, l116, y116, z116⟩, st116⟩ := X109.virtualBack hx (y := (⟨"stowage/engine/DeclaredType$Numbers", "holdsEveryLong", "()Z"⟩ : MethodName)) (z := (⟨"stowage/engine/DeclaredType$Numbers", "holdsEveryLong", "()Z"⟩ : MethodName)) hown (mvT hZ (hw _ (List.mem_of_getElem? (i := 22) rfl))) (mvT hZ (hw _ (List.mem_of_getElem? (i := 23) rfl))) (notFace_of_selects (args := #[]) (mvT hZ (hw _ (List.mem_of_getElem? (i := 25) rfl)))) (mvT hZ (hw _ (List.mem_of_getElem? (i := 25) rfl))) (mvT hZ (hw _ (List.mem_of_getElem? (i := 24) rfl))) (by decide) (backOf (W := 0) (own_rm4 l Z a0 hw [] n_SINGLE 2147483647 2147483647 c_SINGLE T109.heap n0 Zz115 Fi109 Ff109 Fr109) hZ (hw _ (List.mem_of_getElem? (i := 26) rfl)) (hw _ (List.mem_of_getElem? (i := 2) rfl)) (by decide) (by decide)) q116a q116c (g := (mkF m 177 #[.val (.int p1), .val (.int p2), .val (.int p3), .val (.int i3), .val (.int f4), .val (.int pk), .val (.ref c_DOUBLE), .val (.ref b1), .val (.int v8), .val (.int v9), .val (.int (0 : Int32)), .val (.int v11), .unset] [(.ref n_SINGLE)])) rfl (by rw [hml]; rfl) (Steps.refl _) (argsL := []) (rest := []) (lenOf own_pd1 rfl) rfl (by show 2 * 0 + _ ≤ _; exact Nat.le_of_eq rfl) (hb hby at_177) (fun _ _ => ⟨rfl, rfl, (by decide : 3 + 0 ≤ _), (by decide : 9 + 0 ≤ _)⟩)
                dsimp only [Pt.U, Pt.locs, Pt.cells, Pt.slots] at X116 l116 y116 z116 st116 hQ116
                subst l116 y116 z116
                obtain ⟨rfl, N116q, e116⟩ := hQ116
                have N116 := Fr.app N109 N116q
                refine own_st (fun t k => st116.trans k) ?_
                show own_G _ _ _ _ _ _ _ (T116.setTop (mkF m 180 #[.val (.int p1), .val (.int p2), .val (.int p3), .val (.int i3), .val (.int f4), .val (.int pk), .val (.ref c_DOUBLE), .val (.ref b1), .val (.int v8), .val (.int v9), .val (.int (0 : Int32)), .val (.int v11), .unset] [(.int (0 : Int32))]))
                refine own_st (fun t k => XS.ifNo X116.here hx rfl (hb hby at_180) rfl ((if0 _ _).trans (teq rfl).2) k) ?_
                show own_G _ _ _ _ _ _ _ (T116.setTop (mkF m 183 #[.val (.int p1), .val (.int p2), .val (.int p3), .val (.int i3), .val (.int f4), .val (.int pk), .val (.ref c_DOUBLE), .val (.ref b1), .val (.int v8), .val (.int v9), .val (.int (0 : Int32)), .val (.int v11), .unset] []))
                refine own_st (fun t k => XS.iconst X116.here hx rfl (hb hby at_183) k) ?_
                show own_G _ _ _ _ _ _ _ (T116.setTop (mkF m 184 #[.val (.int p1), .val (.int p2), .val (.int p3), .val (.int i3), .val (.int f4), .val (.int pk), .val (.ref c_DOUBLE), .val (.ref b1), .val (.int v8), .val (.int v9), .val (.int (0 : Int32)), .val (.int v11), .unset] [(.int (1 : Int32))]))
                refine own_st (fun t k => XS.goto X116.here hx rfl (pc0 := 184) (pc' := 188) rfl (hb hby at_184) (by decide) (by decide) k) ?_
                show own_G _ _ _ _ _ _ _ (T116.setTop (mkF m 188 #[.val (.int p1), .val (.int p2), .val (.int p3), .val (.int i3), .val (.int f4), .val (.int pk), .val (.ref c_DOUBLE), .val (.ref b1), .val (.int v8), .val (.int v9), .val (.int (0 : Int32)), .val (.int v11), .unset] [(.int (1 : Int32))]))
                refine own_st (fun t k => XS.istore X116.here hx rfl (hb hby at_188) rfl (l' := #[.val (.int p1), .val (.int p2), .val (.int p3), .val (.int i3), .val (.int f4), .val (.int pk), .val (.ref c_DOUBLE), .val (.ref b1), .val (.int v8), .val (.int v9), .val (.int (0 : Int32)), .val (.int v11), .val (.int (1 : Int32))]) rfl k) ?_
                show own_G _ _ _ _ _ _ _ (T116.setTop (mkF m 190 #[.val (.int p1), .val (.int p2), .val (.int p3), .val (.int i3), .val (.int f4), .val (.int pk), .val (.ref c_DOUBLE), .val (.ref b1), .val (.int v8), .val (.int v9), .val (.int (0 : Int32)), .val (.int v11), .val (.int (1 : Int32))] []))
                refine own_st (fun t k => XS.aload X116.here hx rfl (hb hby at_190) rfl rfl k) ?_
                show own_G _ _ _ _ _ _ _ (T116.setTop (mkF m 192 #[.val (.int p1), .val (.int p2), .val (.int p3), .val (.int i3), .val (.int f4), .val (.int pk), .val (.ref c_DOUBLE), .val (.ref b1), .val (.int v8), .val (.int v9), .val (.int (0 : Int32)), .val (.int v11), .val (.int (1 : Int32))] [(.ref b1)]))
                obtain ⟨cq117, kq117, q117a, q117b, q117c⟩ := isOf hZ e116 E_111
                obtain ⟨_, _, ⟨T117, L117, k117, n117⟩, -, X117, ⟨Lc117, hQ117, l117, y117, z117⟩, st117⟩ := X116.virtualBack hx (y := (⟨"stowage/engine/DeclaredType$Numbers", "holdsEveryLong", "()Z"⟩ : MethodName)) (z := (⟨"stowage/engine/DeclaredType$Numbers", "holdsEveryLong", "()Z"⟩ : MethodName)) hown (mvT hZ (hw _ (List.mem_of_getElem? (i := 22) rfl))) (mvT hZ (hw _ (List.mem_of_getElem? (i := 23) rfl))) (notFace_of_selects (args := #[]) (mvT hZ (hw _ (List.mem_of_getElem? (i := 25) rfl)))) (mvT hZ (hw _ (List.mem_of_getElem? (i := 25) rfl))) (mvT hZ (hw _ (List.mem_of_getElem? (i := 24) rfl))) (by decide) (backOf (W := 0) (own_rm4 l Z a0 hw [] b1 i3 f4 c_DOUBLE T109.heap n0 Zz115 Fi_112 Ff_113 Fr_114) hZ (hw _ (List.mem_of_getElem? (i := 26) rfl)) (hw _ (List.mem_of_getElem? (i := 2) rfl)) (by decide) (by decide)) q117a q117c (g := (mkF m 192 #[.val (.int p1), .val (.int p2), .val (.int p3), .val (.int i3), .val (.int f4), .val (.int pk), .val (.ref c_DOUBLE), .val (.ref b1), .val (.int v8), .val (.int v9), .val (.int (0 : Int32)), .val (.int v11), .val (.int (1 : Int32))] [(.ref b1)])) rfl (by rw [hml]; rfl) (Steps.refl _) (argsL := []) (rest := []) (lenOf own_pd1 rfl) rfl (by show 2 * 0 + _ ≤ _; exact Nat.le_of_eq rfl) (hb hby at_192) (fun _ _ => ⟨rfl, e116, (by decide : 3 + 0 ≤ _), (by decide : 9 + 0 ≤ _)⟩)
                dsimp only [Pt.U, Pt.locs, Pt.cells, Pt.slots] at X117 l117 y117 z117 st117 hQ117
                subst l117 y117 z117
                obtain ⟨rfl, N117q, e117⟩ := hQ117
                have N117 := Fr.app N116 N117q
                refine own_st (fun t k => st117.trans k) ?_
                show own_G _ _ _ _ _ _ _ (T117.setTop (mkF m 195 #[.val (.int p1), .val (.int p2), .val (.int p3), .val (.int i3), .val (.int f4), .val (.int pk), .val (.ref c_DOUBLE), .val (.ref b1), .val (.int v8), .val (.int v9), .val (.int (0 : Int32)), .val (.int v11), .val (.int (1 : Int32))] [(.int (0 : Int32))]))
                refine own_st (fun t k => XS.iload X117.here hx rfl (hb hby at_195) rfl k) ?_
                show own_G _ _ _ _ _ _ _ (T117.setTop (mkF m 197 #[.val (.int p1), .val (.int p2), .val (.int p3), .val (.int i3), .val (.int f4), .val (.int pk), .val (.ref c_DOUBLE), .val (.ref b1), .val (.int v8), .val (.int v9), .val (.int (0 : Int32)), .val (.int v11), .val (.int (1 : Int32))] [(.int v11), (.int (0 : Int32))]))
                refine own_st (fun t k => XS.icmpNo X117.here hx rfl (hb hby at_197) rfl (teq hv11.symm).2 k) ?_
                show own_G _ _ _ _ _ _ _ (T117.setTop (mkF m 200 #[.val (.int p1), .val (.int p2), .val (.int p3), .val (.int i3), .val (.int f4), .val (.int pk), .val (.ref c_DOUBLE), .val (.ref b1), .val (.int v8), .val (.int v9), .val (.int (0 : Int32)), .val (.int v11), .val (.int (1 : Int32))] []))
                refine own_st (fun t k => XS.iload X117.here hx rfl (hb hby at_200) rfl k) ?_
                show own_G _ _ _ _ _ _ _ (T117.setTop (mkF m 202 #[.val (.int p1), .val (.int p2), .val (.int p3), .val (.int i3), .val (.int f4), .val (.int pk), .val (.ref c_DOUBLE), .val (.ref b1), .val (.int v8), .val (.int v9), .val (.int (0 : Int32)), .val (.int v11), .val (.int (1 : Int32))] [(.int (1 : Int32))]))
                refine own_st (fun t k => XS.ifNo X117.here hx rfl (hb hby at_202) rfl ((if0 _ _).trans (feq (by decide)).1) k) ?_
                show own_G _ _ _ _ _ _ _ (T117.setTop (mkF m 205 #[.val (.int p1), .val (.int p2), .val (.int p3), .val (.int i3), .val (.int f4), .val (.int pk), .val (.ref c_DOUBLE), .val (.ref b1), .val (.int v8), .val (.int v9), .val (.int (0 : Int32)), .val (.int v11), .val (.int (1 : Int32))] []))
                refine own_st (fun t k => XS.iconst X117.here hx rfl (hb hby at_205) k) ?_
                show own_G _ _ _ _ _ _ _ (T117.setTop (mkF m 206 #[.val (.int p1), .val (.int p2), .val (.int p3), .val (.int i3), .val (.int f4), .val (.int pk), .val (.ref c_DOUBLE), .val (.ref b1), .val (.int v8), .val (.int v9), .val (.int (0 : Int32)), .val (.int v11), .val (.int (1 : Int32))] [(.int (1 : Int32))]))
                refine own_st (fun t k => XS.goto X117.here hx rfl (pc0 := 206) (pc' := 210) rfl (hb hby at_206) (by decide) (by decide) k) ?_
                show own_G _ _ _ _ _ _ _ (T117.setTop (mkF m 210 #[.val (.int p1), .val (.int p2), .val (.int p3), .val (.int i3), .val (.int f4), .val (.int pk), .val (.ref c_DOUBLE), .val (.ref b1), .val (.int v8), .val (.int v9), .val (.int (0 : Int32)), .val (.int v11), .val (.int (1 : Int32))] [(.int (1 : Int32))]))
                exact own_retN (t := .boolean) (by simp) X117 hx Bd.returns (BodyLoose.notSynchronized Bd) (hb hby at_210) (by decide) (by decide) ⟨rfl, N117⟩
              refine own_st (fun t k => XS.ifYes X92.here hx rfl (pc0 := 121) (pc' := 138) rfl (hb hby at_121) rfl ((if0 _ _).trans (teq rfl).1) (by decide) (by decide) k) ?_
              show own_G _ _ _ _ _ _ _ (T92.setTop (mkF m 138 #[.val (.int p1), .val (.int p2), .val (.int p3), .val (.int i3), .val (.int f4), .val (.int pk), .val (.ref c_DOUBLE), .val (.ref b1), .val (.int v8), .val (.int v9), .val (.int (0 : Int32)), .unset, .unset] []))
              refine own_st (fun t k => XS.iconst X92.here hx rfl (hb hby at_138) k) ?_
              show own_G _ _ _ _ _ _ _ (T92.setTop (mkF m 139 #[.val (.int p1), .val (.int p2), .val (.int p3), .val (.int i3), .val (.int f4), .val (.int pk), .val (.ref c_DOUBLE), .val (.ref b1), .val (.int v8), .val (.int v9), .val (.int (0 : Int32)), .unset, .unset] [(.int (0 : Int32))]))
              exact K3 _ rfl
            by_cases z : f4 < (0 : Int32)
            · refine own_st (fun t k => XS.ifYes X92.here hx rfl (pc0 := 97) (pc' := 104) rfl (hb hby at_97) rfl ((if0 _ _).trans (tlt z).1) (by decide) (by decide) k) ?_
              show own_G _ _ _ _ _ _ _ (T92.setTop (mkF m 104 #[.val (.int p1), .val (.int p2), .val (.int p3), .val (.int i3), .val (.int f4), .val (.int pk), .val (.ref c_DOUBLE), .val (.ref b1), .val (.int v8), .unset, .unset, .unset, .unset] []))
              refine own_st (fun t k => XS.iconst X92.here hx rfl (hb hby at_104) k) ?_
              show own_G _ _ _ _ _ _ _ (T92.setTop (mkF m 105 #[.val (.int p1), .val (.int p2), .val (.int p3), .val (.int i3), .val (.int f4), .val (.int pk), .val (.ref c_DOUBLE), .val (.ref b1), .val (.int v8), .unset, .unset, .unset, .unset] [(.int (0 : Int32))]))
              exact K2 _ (by rw [own_b, if_neg fun q => q z])
            · refine own_st (fun t k => XS.ifNo X92.here hx rfl (hb hby at_97) rfl ((if0 _ _).trans (flt z).1) k) ?_
              show own_G _ _ _ _ _ _ _ (T92.setTop (mkF m 100 #[.val (.int p1), .val (.int p2), .val (.int p3), .val (.int i3), .val (.int f4), .val (.int pk), .val (.ref c_DOUBLE), .val (.ref b1), .val (.int v8), .unset, .unset, .unset, .unset] []))
              refine own_st (fun t k => XS.iconst X92.here hx rfl (hb hby at_100) k) ?_
              show own_G _ _ _ _ _ _ _ (T92.setTop (mkF m 101 #[.val (.int p1), .val (.int p2), .val (.int p3), .val (.int i3), .val (.int f4), .val (.int pk), .val (.ref c_DOUBLE), .val (.ref b1), .val (.int v8), .unset, .unset, .unset, .unset] [(.int (1 : Int32))]))
              refine own_st (fun t k => XS.goto X92.here hx rfl (pc0 := 101) (pc' := 105) rfl (hb hby at_101) (by decide) (by decide) k) ?_
              show own_G _ _ _ _ _ _ _ (T92.setTop (mkF m 105 #[.val (.int p1), .val (.int p2), .val (.int p3), .val (.int i3), .val (.int f4), .val (.int pk), .val (.ref c_DOUBLE), .val (.ref b1), .val (.int v8), .unset, .unset, .unset, .unset] [(.int (1 : Int32))]))
              exact K2 _ (by rw [own_b, if_pos z])
          by_cases z : i3 < (19 : Int32)
          · refine own_st (fun t k => XS.icmpYes X92.here hx rfl (pc0 := 85) (pc' := 92) rfl (hb hby at_85) rfl (tlt z).1 (by decide) (by decide) k) ?_
            show own_G _ _ _ _ _ _ _ (T92.setTop (mkF m 92 #[.val (.int p1), .val (.int p2), .val (.int p3), .val (.int i3), .val (.int f4), .val (.int pk), .val (.ref c_DOUBLE), .val (.ref b1), .unset, .unset, .unset, .unset, .unset] []))
            refine own_st (fun t k => XS.iconst X92.here hx rfl (hb hby at_92) k) ?_
            show own_G _ _ _ _ _ _ _ (T92.setTop (mkF m 93 #[.val (.int p1), .val (.int p2), .val (.int p3), .val (.int i3), .val (.int f4), .val (.int pk), .val (.ref c_DOUBLE), .val (.ref b1), .unset, .unset, .unset, .unset, .unset] [(.int (0 : Int32))]))
            exact K1 _ (by rw [own_b, if_neg fun q => q z])
          · refine own_st (fun t k => XS.icmpNo X92.here hx rfl (hb hby at_85) rfl (flt z).1 k) ?_
            show own_G _ _ _ _ _ _ _ (T92.setTop (mkF m 88 #[.val (.int p1), .val (.int p2), .val (.int p3), .val (.int i3), .val (.int f4), .val (.int pk), .val (.ref c_DOUBLE), .val (.ref b1), .unset, .unset, .unset, .unset, .unset] []))
            refine own_st (fun t k => XS.iconst X92.here hx rfl (hb hby at_88) k) ?_
            show own_G _ _ _ _ _ _ _ (T92.setTop (mkF m 89 #[.val (.int p1), .val (.int p2), .val (.int p3), .val (.int i3), .val (.int f4), .val (.int pk), .val (.ref c_DOUBLE), .val (.ref b1), .unset, .unset, .unset, .unset, .unset] [(.int (1 : Int32))]))
            refine own_st (fun t k => XS.goto X92.here hx rfl (pc0 := 89) (pc' := 93) rfl (hb hby at_89) (by decide) (by decide) k) ?_
            show own_G _ _ _ _ _ _ _ (T92.setTop (mkF m 93 #[.val (.int p1), .val (.int p2), .val (.int p3), .val (.int i3), .val (.int f4), .val (.int pk), .val (.ref c_DOUBLE), .val (.ref b1), .unset, .unset, .unset, .unset, .unset] [(.int (1 : Int32))]))
            exact K1 _ (by rw [own_b, if_pos z])
        · refine own_st (fun t k => XS.icmpYes X0.here hx rfl (pc0 := 56) (pc' := 65) rfl (hb hby at_56) rfl (feq k2).2 (by decide) (by decide) k) ?_
          show own_G _ _ _ _ _ _ _ (s₁.setTop (mkF m 65 #[.val (.int p1), .val (.int p2), .val (.int p3), .val (.int i3), .val (.int f4), .val (.int pk), .unset, .unset, .unset, .unset, .unset, .unset, .unset] []))
          refine own_st (fun t k => XS.aconstNull X0.here hx rfl (hb hby at_65) k) ?_
          show own_G _ _ _ _ _ _ _ (s₁.setTop (mkF m 66 #[.val (.int p1), .val (.int p2), .val (.int p3), .val (.int i3), .val (.int f4), .val (.int pk), .unset, .unset, .unset, .unset, .unset, .unset, .unset] [.null]))
          refine own_st (fun t k => XS.astore X0.here hx rfl (hb hby at_66) rfl rfl (l' := #[.val (.int p1), .val (.int p2), .val (.int p3), .val (.int i3), .val (.int f4), .val (.int pk), .val .null, .unset, .unset, .unset, .unset, .unset, .unset]) rfl k) ?_
          show own_G _ _ _ _ _ _ _ (s₁.setTop (mkF m 68 #[.val (.int p1), .val (.int p2), .val (.int p3), .val (.int i3), .val (.int f4), .val (.int pk), .val .null, .unset, .unset, .unset, .unset, .unset, .unset] []))
          obtain ⟨T118, h118, X118, e118, E118, A118, D118, -, st118⟩ := newO X0 hx hZ hown (hw _ (List.mem_of_getElem? (i := 0) rfl)) (hw _ (List.mem_of_getElem? (i := 1) rfl)) (hw _ (List.mem_of_getElem? (i := 2) rfl)) e0 (g := (mkF m 68 #[.val (.int p1), .val (.int p2), .val (.int p3), .val (.int i3), .val (.int f4), .val (.int pk), .val .null, .unset, .unset, .unset, .unset, .unset, .unset] [])) rfl (hb hby at_68) (by decide) (by decide)
          obtain ⟨b1, g118⟩ : ∃ z, z = h0.size := ⟨_, rfl⟩
          rw [← g118] at A118 D118 st118
          refine own_st (fun t k => st118 t k) ?_
          show own_G _ _ _ _ _ _ _ (T118.setTop (mkF m 71 #[.val (.int p1), .val (.int p2), .val (.int p3), .val (.int i3), .val (.int f4), .val (.int pk), .val .null, .unset, .unset, .unset, .unset, .unset, .unset] [(.ref b1)]))
          have ge_b1 : n0 ≤ b1 := Nat.le_trans Z0 (Nat.le_of_eq g118.symm)
          have O_119 := O0.ext E118
          have Zz120 : n0 ≤ h118.size := Nat.le_trans Z0 E118.1
          have F_integerDigits : Fld Z h118 b1 "stowage/engine/DeclaredType$Numbers" "integerDigits" "I" (.int 0) := D118 (Or.inr (hw _ (List.mem_of_getElem? (i := 15) rfl))) (ty := .int) (by decide)
          have F_fractionDigits : Fld Z h118 b1 "stowage/engine/DeclaredType$Numbers" "fractionDigits" "I" (.int 0) := D118 (Or.inr (hw _ (List.mem_of_getElem? (i := 17) rfl))) (ty := .int) (by decide)
          have F_real : Fld Z h118 b1 "stowage/engine/DeclaredType$Numbers" "real" "Lstowage/engine/Real;" .null := D118 (Or.inr (hw _ (List.mem_of_getElem? (i := 19) rfl))) (ty := (.object "stowage/engine/Real")) (by decide)
          refine own_st (fun t k => XS.dup X118.here hx rfl (hb hby at_71) rfl rfl k) ?_
          show own_G _ _ _ _ _ _ _ (T118.setTop (mkF m 72 #[.val (.int p1), .val (.int p2), .val (.int p3), .val (.int i3), .val (.int f4), .val (.int pk), .val .null, .unset, .unset, .unset, .unset, .unset, .unset] [(.ref b1), (.ref b1)]))
          refine own_st (fun t k => XS.iloadN X118.here hx rfl (hb hby at_72) rfl k) ?_
          show own_G _ _ _ _ _ _ _ (T118.setTop (mkF m 73 #[.val (.int p1), .val (.int p2), .val (.int p3), .val (.int i3), .val (.int f4), .val (.int pk), .val .null, .unset, .unset, .unset, .unset, .unset, .unset] [(.int i3), (.ref b1), (.ref b1)]))
          refine own_st (fun t k => XS.iload X118.here hx rfl (hb hby at_73) rfl k) ?_
          show own_G _ _ _ _ _ _ _ (T118.setTop (mkF m 75 #[.val (.int p1), .val (.int p2), .val (.int p3), .val (.int i3), .val (.int f4), .val (.int pk), .val .null, .unset, .unset, .unset, .unset, .unset, .unset] [(.int f4), (.int i3), (.ref b1), (.ref b1)]))
          refine own_st (fun t k => XS.aload X118.here hx rfl (hb hby at_75) rfl rfl k) ?_
          show own_G _ _ _ _ _ _ _ (T118.setTop (mkF m 77 #[.val (.int p1), .val (.int p2), .val (.int p3), .val (.int i3), .val (.int f4), .val (.int pk), .val .null, .unset, .unset, .unset, .unset, .unset, .unset] [.null, (.int f4), (.int i3), (.ref b1), (.ref b1)]))
          obtain ⟨_, _, ⟨T121, L121, k121, n121⟩, -, X121, ⟨Lc121, hQ121, l121, y121, z121⟩, st121⟩ := X118.specialBack hx (y := (⟨"stowage/engine/DeclaredType$Numbers", "<init>", "(IILstowage/engine/Real;)V"⟩ : MethodName)) rfl hown (mvT hZ (hw _ (List.mem_of_getElem? (i := 3) rfl))) (mvT hZ (hw _ (List.mem_of_getElem? (i := 4) rfl))) (mvT hZ (hw _ (List.mem_of_getElem? (i := 5) rfl))) (by decide) (backOf (W := 1) (own_rm3 l Z a0 hw [] b1 i3 f4 h118 n0 Zz120 A118 F_integerDigits F_fractionDigits F_real ge_b1) hZ (hw _ (List.mem_of_getElem? (i := 5) rfl)) (hw _ (List.mem_of_getElem? (i := 2) rfl)) (by decide) (by decide)) (g := (mkF m 77 #[.val (.int p1), .val (.int p2), .val (.int p3), .val (.int i3), .val (.int f4), .val (.int pk), .val .null, .unset, .unset, .unset, .unset, .unset, .unset] [.null, (.int f4), (.int i3), (.ref b1), (.ref b1)])) rfl (by rw [hml]; rfl) (Steps.refl _) (a := b1) (argsL := [(.int i3), (.int f4), .null]) (rest := [(.ref b1)]) (lenOf own_pd0 rfl) rfl (by show 2 * 0 + _ ≤ _; exact Nat.le_of_eq rfl) (hb hby at_77) (fun _ _ => ⟨rfl, e118, (by decide : 1 + 0 ≤ _), (by decide : 3 + 0 ≤ _)⟩)
          dsimp only [Pt.U, Pt.locs, Pt.cells, Pt.slots] at X121 l121 y121 z121 st121 hQ121
          subst l121 y121 z121
          obtain ⟨rfl, N121q, K121, Ax121, Fi121, Ff121, Fr121⟩ := hQ121
          have N121 := Fr.app N0 N121q
          refine own_st (fun t k => st121.trans k) ?_
          show own_G _ _ _ _ _ _ _ (T121.setTop (mkF m 80 #[.val (.int p1), .val (.int p2), .val (.int p3), .val (.int i3), .val (.int f4), .val (.int pk), .val .null, .unset, .unset, .unset, .unset, .unset, .unset] [(.ref b1)]))
          have O_122 := O_119.keep K121 (allS ge_b1 all0)
          have Zz123 : n0 ≤ _ := Nat.le_trans Zz120 K121.1
          refine own_st (fun t k => XS.astore X121.here hx rfl (hb hby at_80) rfl rfl (l' := #[.val (.int p1), .val (.int p2), .val (.int p3), .val (.int i3), .val (.int f4), .val (.int pk), .val .null, .val (.ref b1), .unset, .unset, .unset, .unset, .unset]) rfl k) ?_
          show own_G _ _ _ _ _ _ _ (T121.setTop (mkF m 82 #[.val (.int p1), .val (.int p2), .val (.int p3), .val (.int i3), .val (.int f4), .val (.int pk), .val .null, .val (.ref b1), .unset, .unset, .unset, .unset, .unset] []))
          refine own_st (fun t k => XS.iloadN X121.here hx rfl (hb hby at_82) rfl k) ?_
          show own_G _ _ _ _ _ _ _ (T121.setTop (mkF m 83 #[.val (.int p1), .val (.int p2), .val (.int p3), .val (.int i3), .val (.int f4), .val (.int pk), .val .null, .val (.ref b1), .unset, .unset, .unset, .unset, .unset] [(.int i3)]))
          refine own_st (fun t k => XS.bipush X121.here hx rfl (hb hby at_83) k) ?_
          show own_G _ _ _ _ _ _ _ (T121.setTop (mkF m 85 #[.val (.int p1), .val (.int p2), .val (.int p3), .val (.int i3), .val (.int f4), .val (.int pk), .val .null, .val (.ref b1), .unset, .unset, .unset, .unset, .unset] [(.int (19 : Int32)), (.int i3)]))
          have K1 : ∀ (v8 : Int32), v8 = own_b (¬ i3 < 19) → own_G p.tables e below s (own_Q0 n0) room_1.cells room_1.slots (T121.setTop (mkF m 93 #[.val (.int p1), .val (.int p2), .val (.int p3), .val (.int i3), .val (.int f4), .val (.int pk), .val .null, .val (.ref b1), .unset, .unset, .unset, .unset, .unset] [(.int v8)])) := by
            intro v8 hv8
            refine own_st (fun t k => XS.istore X121.here hx rfl (hb hby at_93) rfl (l' := #[.val (.int p1), .val (.int p2), .val (.int p3), .val (.int i3), .val (.int f4), .val (.int pk), .val .null, .val (.ref b1), .val (.int v8), .unset, .unset, .unset, .unset]) rfl k) ?_
            show own_G _ _ _ _ _ _ _ (T121.setTop (mkF m 95 #[.val (.int p1), .val (.int p2), .val (.int p3), .val (.int i3), .val (.int f4), .val (.int pk), .val .null, .val (.ref b1), .val (.int v8), .unset, .unset, .unset, .unset] []))
            refine own_st (fun t k => XS.iload X121.here hx rfl (hb hby at_95) rfl k) ?_
            show own_G _ _ _ _ _ _ _ (T121.setTop (mkF m 97 #[.val (.int p1), .val (.int p2), .val (.int p3), .val (.int i3), .val (.int f4), .val (.int pk), .val .null, .val (.ref b1), .val (.int v8), .unset, .unset, .unset, .unset] [(.int f4)]))
            have K2 : ∀ (v9 : Int32), v9 = own_b (¬ f4 < 0) → own_G p.tables e below s (own_Q0 n0) room_1.cells room_1.slots (T121.setTop (mkF m 105 #[.val (.int p1), .val (.int p2), .val (.int p3), .val (.int i3), .val (.int f4), .val (.int pk), .val .null, .val (.ref b1), .val (.int v8), .unset, .unset, .unset, .unset] [(.int v9)])) := by
              intro v9 hv9
              refine own_st (fun t k => XS.istore X121.here hx rfl (hb hby at_105) rfl (l' := #[.val (.int p1), .val (.int p2), .val (.int p3), .val (.int i3), .val (.int f4), .val (.int pk), .val .null, .val (.ref b1), .val (.int v8), .val (.int v9), .unset, .unset, .unset]) rfl k) ?_
              show own_G _ _ _ _ _ _ _ (T121.setTop (mkF m 107 #[.val (.int p1), .val (.int p2), .val (.int p3), .val (.int i3), .val (.int f4), .val (.int pk), .val .null, .val (.ref b1), .val (.int v8), .val (.int v9), .unset, .unset, .unset] []))
              refine own_st (fun t k => XS.aload X121.here hx rfl (hb hby at_107) rfl rfl k) ?_
              show own_G _ _ _ _ _ _ _ (T121.setTop (mkF m 109 #[.val (.int p1), .val (.int p2), .val (.int p3), .val (.int i3), .val (.int f4), .val (.int pk), .val .null, .val (.ref b1), .val (.int v8), .val (.int v9), .unset, .unset, .unset] [.null]))
              refine own_st (fun t k => XS.ifnonnullNo X121.here hx rfl (hb hby at_109) rfl k) ?_
              show own_G _ _ _ _ _ _ _ (T121.setTop (mkF m 112 #[.val (.int p1), .val (.int p2), .val (.int p3), .val (.int i3), .val (.int f4), .val (.int pk), .val .null, .val (.ref b1), .val (.int v8), .val (.int v9), .unset, .unset, .unset] []))
              refine own_st (fun t k => XS.iconst X121.here hx rfl (hb hby at_112) k) ?_
              show own_G _ _ _ _ _ _ _ (T121.setTop (mkF m 113 #[.val (.int p1), .val (.int p2), .val (.int p3), .val (.int i3), .val (.int f4), .val (.int pk), .val .null, .val (.ref b1), .val (.int v8), .val (.int v9), .unset, .unset, .unset] [(.int (1 : Int32))]))
              refine own_st (fun t k => XS.goto X121.here hx rfl (pc0 := 113) (pc' := 117) rfl (hb hby at_113) (by decide) (by decide) k) ?_
              show own_G _ _ _ _ _ _ _ (T121.setTop (mkF m 117 #[.val (.int p1), .val (.int p2), .val (.int p3), .val (.int i3), .val (.int f4), .val (.int pk), .val .null, .val (.ref b1), .val (.int v8), .val (.int v9), .unset, .unset, .unset] [(.int (1 : Int32))]))
              refine own_st (fun t k => XS.istore X121.here hx rfl (hb hby at_117) rfl (l' := #[.val (.int p1), .val (.int p2), .val (.int p3), .val (.int i3), .val (.int f4), .val (.int pk), .val .null, .val (.ref b1), .val (.int v8), .val (.int v9), .val (.int (1 : Int32)), .unset, .unset]) rfl k) ?_
              show own_G _ _ _ _ _ _ _ (T121.setTop (mkF m 119 #[.val (.int p1), .val (.int p2), .val (.int p3), .val (.int i3), .val (.int f4), .val (.int pk), .val .null, .val (.ref b1), .val (.int v8), .val (.int v9), .val (.int (1 : Int32)), .unset, .unset] []))
              refine own_st (fun t k => XS.iload X121.here hx rfl (hb hby at_119) rfl k) ?_
              show own_G _ _ _ _ _ _ _ (T121.setTop (mkF m 121 #[.val (.int p1), .val (.int p2), .val (.int p3), .val (.int i3), .val (.int f4), .val (.int pk), .val .null, .val (.ref b1), .val (.int v8), .val (.int v9), .val (.int (1 : Int32)), .unset, .unset] [(.int (1 : Int32))]))
              have K3 : ∀ (v11 : Int32), v11 = own_b (¬ i3 < 19 ∧ ¬ f4 < 0) → own_G p.tables e below s (own_Q0 n0) room_1.cells room_1.slots (T121.setTop (mkF m 139 #[.val (.int p1), .val (.int p2), .val (.int p3), .val (.int i3), .val (.int f4), .val (.int pk), .val .null, .val (.ref b1), .val (.int v8), .val (.int v9), .val (.int (1 : Int32)), .unset, .unset] [(.int v11)])) := by
                intro v11 hv11
                refine own_st (fun t k => XS.istore X121.here hx rfl (hb hby at_139) rfl (l' := #[.val (.int p1), .val (.int p2), .val (.int p3), .val (.int i3), .val (.int f4), .val (.int pk), .val .null, .val (.ref b1), .val (.int v8), .val (.int v9), .val (.int (1 : Int32)), .val (.int v11), .unset]) rfl k) ?_
                show own_G _ _ _ _ _ _ _ (T121.setTop (mkF m 141 #[.val (.int p1), .val (.int p2), .val (.int p3), .val (.int i3), .val (.int f4), .val (.int pk), .val .null, .val (.ref b1), .val (.int v8), .val (.int v9), .val (.int (1 : Int32)), .val (.int v11), .unset] []))
                obtain ⟨T124, X124, e124, st124⟩ := getS2 X121 hx hZ hown (host := "") (Or.inl (hw _ (List.mem_of_getElem? (i := 20) rfl))) Via.refl rfl (S_ANY.ext O_122.2) (g := (mkF m 141 #[.val (.int p1), .val (.int p2), .val (.int p3), .val (.int i3), .val (.int f4), .val (.int pk), .val .null, .val (.ref b1), .val (.int v8), .val (.int v9), .val (.int (1 : Int32)), .val (.int v11), .unset] [])) rfl (hb hby at_141)
                refine own_st (fun t k => st124 t k) ?_
                show own_G _ _ _ _ _ _ _ (T124.setTop (mkF m 144 #[.val (.int p1), .val (.int p2), .val (.int p3), .val (.int i3), .val (.int f4), .val (.int pk), .val .null, .val (.ref b1), .val (.int v8), .val (.int v9), .val (.int (1 : Int32)), .val (.int v11), .unset] [(.ref c_ANY)]))
                obtain ⟨cq125, kq125, q125a, q125b, q125c⟩ := isOf hZ e124 (A_ANY.ext O_122.2)
                obtain ⟨_, _, ⟨T125, L125, k125, n125⟩, -, X125, ⟨Lc125, hQ125, l125, y125, z125⟩, st125⟩ := X124.virtualBack hx (y := (⟨"stowage/engine/DeclaredType$Numbers", "holdsEveryLong", "()Z"⟩ : MethodName)) (z := (⟨"stowage/engine/DeclaredType$Numbers", "holdsEveryLong", "()Z"⟩ : MethodName)) hown (mvT hZ (hw _ (List.mem_of_getElem? (i := 22) rfl))) (mvT hZ (hw _ (List.mem_of_getElem? (i := 23) rfl))) (notFace_of_selects (args := #[]) (mvT hZ (hw _ (List.mem_of_getElem? (i := 25) rfl)))) (mvT hZ (hw _ (List.mem_of_getElem? (i := 25) rfl))) (mvT hZ (hw _ (List.mem_of_getElem? (i := 24) rfl))) (by decide) (backOf (W := 0) (own_rm5 l Z a0 hw [] c_ANY 2147483647 2147483647 T121.heap n0 Zz123 (Fi_ANY.ext O_122.2) (Ff_ANY.ext O_122.2) (Fr_ANY.ext O_122.2)) hZ (hw _ (List.mem_of_getElem? (i := 26) rfl)) (hw _ (List.mem_of_getElem? (i := 2) rfl)) (by decide) (by decide)) q125a q125c (g := (mkF m 144 #[.val (.int p1), .val (.int p2), .val (.int p3), .val (.int i3), .val (.int f4), .val (.int pk), .val .null, .val (.ref b1), .val (.int v8), .val (.int v9), .val (.int (1 : Int32)), .val (.int v11), .unset] [(.ref c_ANY)])) rfl (by rw [hml]; rfl) (Steps.refl _) (argsL := []) (rest := []) (lenOf own_pd1 rfl) rfl (by show 2 * 0 + _ ≤ _; exact Nat.le_of_eq rfl) (hb hby at_144) (fun _ _ => ⟨rfl, e124, (by decide : 1 + 0 ≤ _), (by decide : 3 + 0 ≤ _)⟩)
                dsimp only [Pt.U, Pt.locs, Pt.cells, Pt.slots] at X125 l125 y125 z125 st125 hQ125
                subst l125 y125 z125
                obtain ⟨rfl, N125q, e125⟩ := hQ125
                have N125 := Fr.app N121 N125q
                refine own_st (fun t k => st125.trans k) ?_
                show own_G _ _ _ _ _ _ _ (T125.setTop (mkF m 147 #[.val (.int p1), .val (.int p2), .val (.int p3), .val (.int i3), .val (.int f4), .val (.int pk), .val .null, .val (.ref b1), .val (.int v8), .val (.int v9), .val (.int (1 : Int32)), .val (.int v11), .unset] [(.int (own_b (¬ (2147483647 : Int32) < 19 ∧ ¬ (2147483647 : Int32) < 0)))]))
                refine own_st (fun t k => XS.ifNo X125.here hx rfl (hb hby at_147) rfl ((if0 _ _).trans (feq (by decide)).1) k) ?_
                show own_G _ _ _ _ _ _ _ (T125.setTop (mkF m 150 #[.val (.int p1), .val (.int p2), .val (.int p3), .val (.int i3), .val (.int f4), .val (.int pk), .val .null, .val (.ref b1), .val (.int v8), .val (.int v9), .val (.int (1 : Int32)), .val (.int v11), .unset] []))
                obtain ⟨T126, X126, e126, st126⟩ := getS2 X125 hx hZ hown (host := "") (Or.inl (hw _ (List.mem_of_getElem? (i := 27) rfl))) Via.refl e125 (S_WHOLE.ext O_122.2) (g := (mkF m 150 #[.val (.int p1), .val (.int p2), .val (.int p3), .val (.int i3), .val (.int f4), .val (.int pk), .val .null, .val (.ref b1), .val (.int v8), .val (.int v9), .val (.int (1 : Int32)), .val (.int v11), .unset] [])) rfl (hb hby at_150)
                refine own_st (fun t k => st126 t k) ?_
                show own_G _ _ _ _ _ _ _ (T126.setTop (mkF m 153 #[.val (.int p1), .val (.int p2), .val (.int p3), .val (.int i3), .val (.int f4), .val (.int pk), .val .null, .val (.ref b1), .val (.int v8), .val (.int v9), .val (.int (1 : Int32)), .val (.int v11), .unset] [(.ref c_WHOLE)]))
                obtain ⟨cq127, kq127, q127a, q127b, q127c⟩ := isOf hZ e126 (A_WHOLE.ext O_122.2)
                obtain ⟨_, _, ⟨T127, L127, k127, n127⟩, -, X127, ⟨Lc127, hQ127, l127, y127, z127⟩, st127⟩ := X126.virtualBack hx (y := (⟨"stowage/engine/DeclaredType$Numbers", "holdsEveryLong", "()Z"⟩ : MethodName)) (z := (⟨"stowage/engine/DeclaredType$Numbers", "holdsEveryLong", "()Z"⟩ : MethodName)) hown (mvT hZ (hw _ (List.mem_of_getElem? (i := 22) rfl))) (mvT hZ (hw _ (List.mem_of_getElem? (i := 23) rfl))) (notFace_of_selects (args := #[]) (mvT hZ (hw _ (List.mem_of_getElem? (i := 25) rfl)))) (mvT hZ (hw _ (List.mem_of_getElem? (i := 25) rfl))) (mvT hZ (hw _ (List.mem_of_getElem? (i := 24) rfl))) (by decide) (backOf (W := 0) (own_rm5 l Z a0 hw [] c_WHOLE 2147483647 0 T121.heap n0 Zz123 (Fi_WHOLE.ext O_122.2) (Ff_WHOLE.ext O_122.2) (Fr_WHOLE.ext O_122.2)) hZ (hw _ (List.mem_of_getElem? (i := 26) rfl)) (hw _ (List.mem_of_getElem? (i := 2) rfl)) (by decide) (by decide)) q127a q127c (g := (mkF m 153 #[.val (.int p1), .val (.int p2), .val (.int p3), .val (.int i3), .val (.int f4), .val (.int pk), .val .null, .val (.ref b1), .val (.int v8), .val (.int v9), .val (.int (1 : Int32)), .val (.int v11), .unset] [(.ref c_WHOLE)])) rfl (by rw [hml]; rfl) (Steps.refl _) (argsL := []) (rest := []) (lenOf own_pd1 rfl) rfl (by show 2 * 0 + _ ≤ _; exact Nat.le_of_eq rfl) (hb hby at_153) (fun _ _ => ⟨rfl, e126, (by decide : 1 + 0 ≤ _), (by decide : 3 + 0 ≤ _)⟩)
                dsimp only [Pt.U, Pt.locs, Pt.cells, Pt.slots] at X127 l127 y127 z127 st127 hQ127
                subst l127 y127 z127
                obtain ⟨rfl, N127q, e127⟩ := hQ127
                have N127 := Fr.app N125 N127q
                refine own_st (fun t k => st127.trans k) ?_
                show own_G _ _ _ _ _ _ _ (T127.setTop (mkF m 156 #[.val (.int p1), .val (.int p2), .val (.int p3), .val (.int i3), .val (.int f4), .val (.int pk), .val .null, .val (.ref b1), .val (.int v8), .val (.int v9), .val (.int (1 : Int32)), .val (.int v11), .unset] [(.int (own_b (¬ (2147483647 : Int32) < 19 ∧ ¬ (0 : Int32) < 0)))]))
                refine own_st (fun t k => XS.ifNo X127.here hx rfl (hb hby at_156) rfl ((if0 _ _).trans (feq (by decide)).1) k) ?_
                show own_G _ _ _ _ _ _ _ (T127.setTop (mkF m 159 #[.val (.int p1), .val (.int p2), .val (.int p3), .val (.int i3), .val (.int f4), .val (.int pk), .val .null, .val (.ref b1), .val (.int v8), .val (.int v9), .val (.int (1 : Int32)), .val (.int v11), .unset] []))
                obtain ⟨T128, X128, e128, st128⟩ := getS2 X127 hx hZ hown (host := "") (Or.inl (hw _ (List.mem_of_getElem? (i := 29) rfl))) Via.refl e127 (S_DOUBLE.ext O_122.2) (g := (mkF m 159 #[.val (.int p1), .val (.int p2), .val (.int p3), .val (.int i3), .val (.int f4), .val (.int pk), .val .null, .val (.ref b1), .val (.int v8), .val (.int v9), .val (.int (1 : Int32)), .val (.int v11), .unset] [])) rfl (hb hby at_159)
                refine own_st (fun t k => st128 t k) ?_
                show own_G _ _ _ _ _ _ _ (T128.setTop (mkF m 162 #[.val (.int p1), .val (.int p2), .val (.int p3), .val (.int i3), .val (.int f4), .val (.int pk), .val .null, .val (.ref b1), .val (.int v8), .val (.int v9), .val (.int (1 : Int32)), .val (.int v11), .unset] [(.ref c_DOUBLE)]))
                obtain ⟨_, _, ⟨T129, L129, k129, n129⟩, -, X129, ⟨Lc129, hQ129, l129, y129, z129⟩, st129⟩ := Jvm.LawKit.callS X128 hx (y := (⟨"stowage/engine/DeclaredType$Numbers", "of", "(Lstowage/engine/Real;)Lstowage/engine/DeclaredType$Numbers;"⟩ : MethodName)) hown (mvT hZ (hw _ (List.mem_of_getElem? (i := 32) rfl))) (mvT hZ (hw _ (List.mem_of_getElem? (i := 33) rfl))) (mvT hZ (hw _ (List.mem_of_getElem? (i := 2) rfl))) (mvT hZ (hw _ (List.mem_of_getElem? (i := 34) rfl))) (by decide) (backOf (W := 0) (own_rm6 l Z a0 hw [] c_DOUBLE T121.heap n0 Zz123) hZ (hw _ (List.mem_of_getElem? (i := 34) rfl)) (hw _ (List.mem_of_getElem? (i := 2) rfl)) (by decide) (by decide)) (g := (mkF m 162 #[.val (.int p1), .val (.int p2), .val (.int p3), .val (.int i3), .val (.int f4), .val (.int pk), .val .null, .val (.ref b1), .val (.int v8), .val (.int v9), .val (.int (1 : Int32)), .val (.int v11), .unset] [(.ref c_DOUBLE)])) rfl (by rw [hml]; rfl) (argsL := [(.ref c_DOUBLE)]) (rest := []) (lenOf own_pd2 rfl) rfl (by show 2 * 0 + _ ≤ _; exact Nat.le_of_eq rfl) (hb hby at_162) (fun _ _ => ⟨rfl, e128, (by decide : 1 + 1 ≤ _), (by decide : 3 + 3 ≤ _)⟩)
                dsimp only [Pt.U, Pt.locs, Pt.cells, Pt.slots] at X129 l129 y129 z129 st129 hQ129
                subst l129 y129 z129
                obtain ⟨n_DOUBLE, rfl, N129q, K129, Ax129, Fi129, Ff129, Fr129⟩ := hQ129
                have N129 := Fr.app N127 N129q
                refine own_st (fun t k => st129 t k) ?_
                show own_G _ _ _ _ _ _ _ (T129.setTop (mkF m 165 #[.val (.int p1), .val (.int p2), .val (.int p3), .val (.int i3), .val (.int f4), .val (.int pk), .val .null, .val (.ref b1), .val (.int v8), .val (.int v9), .val (.int (1 : Int32)), .val (.int v11), .unset] [(.ref n_DOUBLE)]))
                have O_130 := O_122.keep K129 all0
                have E_131 := Ax121.keep K129
                have Fi_132 := Fi121.keep K129 nin0
                have Ff_133 := Ff121.keep K129 nin0
                have Fr_134 := Fr121.keep K129 nin0
                have Zz135 : n0 ≤ _ := Nat.le_trans Zz123 K129.1
                obtain ⟨cq136, kq136, q136a, q136b, q136c⟩ := isOf hZ rfl Ax129
                obtain ⟨_, _, ⟨T136, L136, k136, n136⟩, -, X136, ⟨Lc136, hQ136, l136, y136, z136⟩, st136⟩ := X129.virtualBack hx (y := (⟨"stowage/engine/DeclaredType$Numbers", "holdsEveryLong", "()Z"⟩ : MethodName)) (z := (⟨"stowage/engine/DeclaredType$Numbers", "holdsEveryLong", "()Z"⟩ : MethodName)) hown (mvT hZ (hw _ (List.mem_of_getElem? (i := 22) rfl))) (mvT hZ (hw _ (List.mem_of_getElem? (i := 23) rfl))) (notFace_of_selects (args := #[]) (mvT hZ (hw _ (List.mem_of_getElem? (i := 25) rfl)))) (mvT hZ (hw _ (List.mem_of_getElem? (i := 25) rfl))) (mvT hZ (hw _ (List.mem_of_getElem? (i := 24) rfl))) (by decide) (backOf (W := 0) (own_rm4 l Z a0 hw [] n_DOUBLE 2147483647 2147483647 c_DOUBLE T129.heap n0 Zz135 Fi129 Ff129 Fr129) hZ (hw _ (List.mem_of_getElem? (i := 26) rfl)) (hw _ (List.mem_of_getElem? (i := 2) rfl)) (by decide) (by decide)) q136a q136c (g := (mkF m 165 #[.val (.int p1), .val (.int p2), .val (.int p3), .val (.int i3), .val (.int f4), .val (.int pk), .val .null, .val (.ref b1), .val (.int v8), .val (.int v9), .val (.int (1 : Int32)), .val (.int v11), .unset] [(.ref n_DOUBLE)])) rfl (by rw [hml]; rfl) (Steps.refl _) (argsL := []) (rest := []) (lenOf own_pd1 rfl) rfl (by show 2 * 0 + _ ≤ _; exact Nat.le_of_eq rfl) (hb hby at_165) (fun _ _ => ⟨rfl, rfl, (by decide : 2 + 0 ≤ _), (by decide : 6 + 0 ≤ _)⟩)
                dsimp only [Pt.U, Pt.locs, Pt.cells, Pt.slots] at X136 l136 y136 z136 st136 hQ136
                subst l136 y136 z136
                obtain ⟨rfl, N136q, e136⟩ := hQ136
                have N136 := Fr.app N129 N136q
                refine own_st (fun t k => st136.trans k) ?_
                show own_G _ _ _ _ _ _ _ (T136.setTop (mkF m 168 #[.val (.int p1), .val (.int p2), .val (.int p3), .val (.int i3), .val (.int f4), .val (.int pk), .val .null, .val (.ref b1), .val (.int v8), .val (.int v9), .val (.int (1 : Int32)), .val (.int v11), .unset] [(.int (0 : Int32))]))
                refine own_st (fun t k => XS.ifNo X136.here hx rfl (hb hby at_168) rfl ((if0 _ _).trans (teq rfl).2) k) ?_
                show own_G _ _ _ _ _ _ _ (T136.setTop (mkF m 171 #[.val (.int p1), .val (.int p2), .val (.int p3), .val (.int i3), .val (.int f4), .val (.int pk), .val .null, .val (.ref b1), .val (.int v8), .val (.int v9), .val (.int (1 : Int32)), .val (.int v11), .unset] []))
                obtain ⟨T137, X137, e137, st137⟩ := getS2 X136 hx hZ hown (host := "") (Or.inl (hw _ (List.mem_of_getElem? (i := 38) rfl))) Via.refl e136 (S_SINGLE.ext O_130.2) (g := (mkF m 171 #[.val (.int p1), .val (.int p2), .val (.int p3), .val (.int i3), .val (.int f4), .val (.int pk), .val .null, .val (.ref b1), .val (.int v8), .val (.int v9), .val (.int (1 : Int32)), .val (.int v11), .unset] [])) rfl (hb hby at_171)
                refine own_st (fun t k => st137 t k) ?_
                show own_G _ _ _ _ _ _ _ (T137.setTop (mkF m 174 #[.val (.int p1), .val (.int p2), .val (.int p3), .val (.int i3), .val (.int f4), .val (.int pk), .val .null, .val (.ref b1), .val (.int v8), .val (.int v9), .val (.int (1 : Int32)), .val (.int v11), .unset] [(.ref c_SINGLE)]))
                obtain ⟨_, _, ⟨T138, L138, k138, n138⟩, -, X138, ⟨Lc138, hQ138, l138, y138, z138⟩, st138⟩ := Jvm.LawKit.callS X137 hx (y := (⟨"stowage/engine/DeclaredType$Numbers", "of", "(Lstowage/engine/Real;)Lstowage/engine/DeclaredType$Numbers;"⟩ : MethodName)) hown (mvT hZ (hw _ (List.mem_of_getElem? (i := 32) rfl))) (mvT hZ (hw _ (List.mem_of_getElem? (i := 33) rfl))) (mvT hZ (hw _ (List.mem_of_getElem? (i := 2) rfl))) (mvT hZ (hw _ (List.mem_of_getElem? (i := 34) rfl))) (by decide) (backOf (W := 0) (own_rm6 l Z a0 hw [] c_SINGLE T129.heap n0 Zz135) hZ (hw _ (List.mem_of_getElem? (i := 34) rfl)) (hw _ (List.mem_of_getElem? (i := 2) rfl)) (by decide) (by decide)) (g := (mkF m 174 #[.val (.int p1), .val (.int p2), .val (.int p3), .val (.int i3), .val (.int f4), .val (.int pk), .val .null, .val (.ref b1), .val (.int v8), .val (.int v9), .val (.int (1 : Int32)), .val (.int v11), .unset] [(.ref c_SINGLE)])) rfl (by rw [hml]; rfl) (argsL := [(.ref c_SINGLE)]) (rest := []) (lenOf own_pd2 rfl) rfl (by show 2 * 0 + _ ≤ _; exact Nat.le_of_eq rfl) (hb hby at_174) (fun _ _ => ⟨rfl, e137, (by decide : 2 + 1 ≤ _), (by decide : 6 + 3 ≤ _)⟩)
                dsimp only [Pt.U, Pt.locs, Pt.cells, Pt.slots] at X138 l138 y138 z138 st138 hQ138
                subst l138 y138 z138
                obtain ⟨n_SINGLE, rfl, N138q, K138, Ax138, Fi138, Ff138, Fr138⟩ := hQ138
                have N138 := Fr.app N136 N138q
                refine own_st (fun t k => st138 t k) ?_
                show own_G _ _ _ _ _ _ _ (T138.setTop (mkF m 177 #[.val (.int p1), .val (.int p2), .val (.int p3), .val (.int i3), .val (.int f4), .val (.int pk), .val .null, .val (.ref b1), .val (.int v8), .val (.int v9), .val (.int (1 : Int32)), .val (.int v11), .unset] [(.ref n_SINGLE)]))
                have O_139 := O_130.keep K138 all0
                have E_140 := E_131.keep K138
                have Fi_141 := Fi_132.keep K138 nin0
                have Ff_142 := Ff_133.keep K138 nin0
                have Fr_143 := Fr_134.keep K138 nin0
                have Zz144 : n0 ≤ _ := Nat.le_trans Zz135 K138.1
                obtain ⟨cq145, kq145, q145a, q145b, q145c⟩ := isOf hZ rfl Ax138
                obtain ⟨_, _, ⟨T145, L145, k145, n145⟩, -, X145, ⟨Lc145, hQ145, l145, y145, z145⟩, st145⟩ := X138.virtualBack hx (y := (⟨"stowage/engine/DeclaredType$Numbers", "holdsEveryLong", "()Z"⟩ : MethodName)) (z := (⟨"stowage/engine/DeclaredType$Numbers", "holdsEveryLong", "()Z"⟩ : MethodName)) hown (mvT hZ (hw _ (List.mem_of_getElem? (i := 22) rfl))) (mvT hZ (hw _ (List.mem_of_getElem? (i := 23) rfl))) (notFace_of_selects (args := #[]) (mvT hZ (hw _ (List.mem_of_getElem? (i := 25) rfl)))) (mvT hZ (hw _ (List.mem_of_getElem? (i := 25) rfl))) (mvT hZ (hw _ (List.mem_of_getElem? (i := 24) rfl))) (by decide) (backOf (W := 0) (own_rm4 l Z a0 hw [] n_SINGLE 2147483647 2147483647 c_SINGLE T138.heap n0 Zz144 Fi138 Ff138 Fr138) hZ (hw _ (List.mem_of_getElem? (i := 26) rfl)) (hw _ (List.mem_of_getElem? (i := 2) rfl)) (by decide) (by decide)) q145a q145c (g := (mkF m 177 #[.val (.int p1), .val (.int p2), .val (.int p3), .val (.int i3), .val (.int f4), .val (.int pk), .val .null, .val (.ref b1), .val (.int v8), .val (.int v9), .val (.int (1 : Int32)), .val (.int v11), .unset] [(.ref n_SINGLE)])) rfl (by rw [hml]; rfl) (Steps.refl _) (argsL := []) (rest := []) (lenOf own_pd1 rfl) rfl (by show 2 * 0 + _ ≤ _; exact Nat.le_of_eq rfl) (hb hby at_177) (fun _ _ => ⟨rfl, rfl, (by decide : 3 + 0 ≤ _), (by decide : 9 + 0 ≤ _)⟩)
                dsimp only [Pt.U, Pt.locs, Pt.cells, Pt.slots] at X145 l145 y145 z145 st145 hQ145
                subst l145 y145 z145
                obtain ⟨rfl, N145q, e145⟩ := hQ145
                have N145 := Fr.app N138 N145q
                refine own_st (fun t k => st145.trans k) ?_
                show own_G _ _ _ _ _ _ _ (T145.setTop (mkF m 180 #[.val (.int p1), .val (.int p2), .val (.int p3), .val (.int i3), .val (.int f4), .val (.int pk), .val .null, .val (.ref b1), .val (.int v8), .val (.int v9), .val (.int (1 : Int32)), .val (.int v11), .unset] [(.int (0 : Int32))]))
                refine own_st (fun t k => XS.ifNo X145.here hx rfl (hb hby at_180) rfl ((if0 _ _).trans (teq rfl).2) k) ?_
                show own_G _ _ _ _ _ _ _ (T145.setTop (mkF m 183 #[.val (.int p1), .val (.int p2), .val (.int p3), .val (.int i3), .val (.int f4), .val (.int pk), .val .null, .val (.ref b1), .val (.int v8), .val (.int v9), .val (.int (1 : Int32)), .val (.int v11), .unset] []))
                refine own_st (fun t k => XS.iconst X145.here hx rfl (hb hby at_183) k) ?_
                show own_G _ _ _ _ _ _ _ (T145.setTop (mkF m 184 #[.val (.int p1), .val (.int p2), .val (.int p3), .val (.int i3), .val (.int f4), .val (.int pk), .val .null, .val (.ref b1), .val (.int v8), .val (.int v9), .val (.int (1 : Int32)), .val (.int v11), .unset] [(.int (1 : Int32))]))
                refine own_st (fun t k => XS.goto X145.here hx rfl (pc0 := 184) (pc' := 188) rfl (hb hby at_184) (by decide) (by decide) k) ?_
                show own_G _ _ _ _ _ _ _ (T145.setTop (mkF m 188 #[.val (.int p1), .val (.int p2), .val (.int p3), .val (.int i3), .val (.int f4), .val (.int pk), .val .null, .val (.ref b1), .val (.int v8), .val (.int v9), .val (.int (1 : Int32)), .val (.int v11), .unset] [(.int (1 : Int32))]))
                refine own_st (fun t k => XS.istore X145.here hx rfl (hb hby at_188) rfl (l' := #[.val (.int p1), .val (.int p2), .val (.int p3), .val (.int i3), .val (.int f4), .val (.int pk), .val .null, .val (.ref b1), .val (.int v8), .val (.int v9), .val (.int (1 : Int32)), .val (.int v11), .val (.int (1 : Int32))]) rfl k) ?_
                show own_G _ _ _ _ _ _ _ (T145.setTop (mkF m 190 #[.val (.int p1), .val (.int p2), .val (.int p3), .val (.int i3), .val (.int f4), .val (.int pk), .val .null, .val (.ref b1), .val (.int v8), .val (.int v9), .val (.int (1 : Int32)), .val (.int v11), .val (.int (1 : Int32))] []))
                refine own_st (fun t k => XS.aload X145.here hx rfl (hb hby at_190) rfl rfl k) ?_
                show own_G _ _ _ _ _ _ _ (T145.setTop (mkF m 192 #[.val (.int p1), .val (.int p2), .val (.int p3), .val (.int i3), .val (.int f4), .val (.int pk), .val .null, .val (.ref b1), .val (.int v8), .val (.int v9), .val (.int (1 : Int32)), .val (.int v11), .val (.int (1 : Int32))] [(.ref b1)]))
                obtain ⟨cq146, kq146, q146a, q146b, q146c⟩ := isOf hZ e145 E_140
                obtain ⟨_, _, ⟨T146, L146, k146, n146⟩, -, X146, ⟨Lc146, hQ146, l146, y146, z146⟩, st146⟩ := X145.virtualBack hx (y := (⟨"stowage/engine/DeclaredType$Numbers", "holdsEveryLong", "()Z"⟩ : MethodName)) (z := (⟨"stowage/engine/DeclaredType$Numbers", "holdsEveryLong", "()Z"⟩ : MethodName)) hown (mvT hZ (hw _ (List.mem_of_getElem? (i := 22) rfl))) (mvT hZ (hw _ (List.mem_of_getElem? (i := 23) rfl))) (notFace_of_selects (args := #[]) (mvT hZ (hw _ (List.mem_of_getElem? (i := 25) rfl)))) (mvT hZ (hw _ (List.mem_of_getElem? (i := 25) rfl))) (mvT hZ (hw _ (List.mem_of_getElem? (i := 24) rfl))) (by decide) (backOf (W := 0) (own_rm5 l Z a0 hw [] b1 i3 f4 T138.heap n0 Zz144 Fi_141 Ff_142 Fr_143) hZ (hw _ (List.mem_of_getElem? (i := 26) rfl)) (hw _ (List.mem_of_getElem? (i := 2) rfl)) (by decide) (by decide)) q146a q146c (g := (mkF m 192 #[.val (.int p1), .val (.int p2), .val (.int p3), .val (.int i3), .val (.int f4), .val (.int pk), .val .null, .val (.ref b1), .val (.int v8), .val (.int v9), .val (.int (1 : Int32)), .val (.int v11), .val (.int (1 : Int32))] [(.ref b1)])) rfl (by rw [hml]; rfl) (Steps.refl _) (argsL := []) (rest := []) (lenOf own_pd1 rfl) rfl (by show 2 * 0 + _ ≤ _; exact Nat.le_of_eq rfl) (hb hby at_192) (fun _ _ => ⟨rfl, e145, (by decide : 3 + 0 ≤ _), (by decide : 9 + 0 ≤ _)⟩)
                dsimp only [Pt.U, Pt.locs, Pt.cells, Pt.slots] at X146 l146 y146 z146 st146 hQ146
                subst l146 y146 z146
                obtain ⟨rfl, N146q, e146⟩ := hQ146
                have N146 := Fr.app N145 N146q
                refine own_st (fun t k => st146.trans k) ?_
                show own_G _ _ _ _ _ _ _ (T146.setTop (mkF m 195 #[.val (.int p1), .val (.int p2), .val (.int p3), .val (.int i3), .val (.int f4), .val (.int pk), .val .null, .val (.ref b1), .val (.int v8), .val (.int v9), .val (.int (1 : Int32)), .val (.int v11), .val (.int (1 : Int32))] [(.int (own_b (¬ i3 < 19 ∧ ¬ f4 < 0)))]))
                refine own_st (fun t k => XS.iload X146.here hx rfl (hb hby at_195) rfl k) ?_
                show own_G _ _ _ _ _ _ _ (T146.setTop (mkF m 197 #[.val (.int p1), .val (.int p2), .val (.int p3), .val (.int i3), .val (.int f4), .val (.int pk), .val .null, .val (.ref b1), .val (.int v8), .val (.int v9), .val (.int (1 : Int32)), .val (.int v11), .val (.int (1 : Int32))] [(.int v11), (.int (own_b (¬ i3 < 19 ∧ ¬ f4 < 0)))]))
                refine own_st (fun t k => XS.icmpNo X146.here hx rfl (hb hby at_197) rfl (teq hv11.symm).2 k) ?_
                show own_G _ _ _ _ _ _ _ (T146.setTop (mkF m 200 #[.val (.int p1), .val (.int p2), .val (.int p3), .val (.int i3), .val (.int f4), .val (.int pk), .val .null, .val (.ref b1), .val (.int v8), .val (.int v9), .val (.int (1 : Int32)), .val (.int v11), .val (.int (1 : Int32))] []))
                refine own_st (fun t k => XS.iload X146.here hx rfl (hb hby at_200) rfl k) ?_
                show own_G _ _ _ _ _ _ _ (T146.setTop (mkF m 202 #[.val (.int p1), .val (.int p2), .val (.int p3), .val (.int i3), .val (.int f4), .val (.int pk), .val .null, .val (.ref b1), .val (.int v8), .val (.int v9), .val (.int (1 : Int32)), .val (.int v11), .val (.int (1 : Int32))] [(.int (1 : Int32))]))
                refine own_st (fun t k => XS.ifNo X146.here hx rfl (hb hby at_202) rfl ((if0 _ _).trans (feq (by decide)).1) k) ?_
                show own_G _ _ _ _ _ _ _ (T146.setTop (mkF m 205 #[.val (.int p1), .val (.int p2), .val (.int p3), .val (.int i3), .val (.int f4), .val (.int pk), .val .null, .val (.ref b1), .val (.int v8), .val (.int v9), .val (.int (1 : Int32)), .val (.int v11), .val (.int (1 : Int32))] []))
                refine own_st (fun t k => XS.iconst X146.here hx rfl (hb hby at_205) k) ?_
                show own_G _ _ _ _ _ _ _ (T146.setTop (mkF m 206 #[.val (.int p1), .val (.int p2), .val (.int p3), .val (.int i3), .val (.int f4), .val (.int pk), .val .null, .val (.ref b1), .val (.int v8), .val (.int v9), .val (.int (1 : Int32)), .val (.int v11), .val (.int (1 : Int32))] [(.int (1 : Int32))]))
                refine own_st (fun t k => XS.goto X146.here hx rfl (pc0 := 206) (pc' := 210) rfl (hb hby at_206) (by decide) (by decide) k) ?_
                show own_G _ _ _ _ _ _ _ (T146.setTop (mkF m 210 #[.val (.int p1), .val (.int p2), .val (.int p3), .val (.int i3), .val (.int f4), .val (.int pk), .val .null, .val (.ref b1), .val (.int v8), .val (.int v9), .val (.int (1 : Int32)), .val (.int v11), .val (.int (1 : Int32))] [(.int (1 : Int32))]))
                exact own_retN (t := .boolean) (by simp) X146 hx Bd.returns (BodyLoose.notSynchronized Bd) (hb hby at_210) (by decide) (by decide) ⟨rfl, N146⟩
              refine own_st (fun t k => XS.ifNo X121.here hx rfl (hb hby at_121) rfl ((if0 _ _).trans (feq (by decide)).1) k) ?_
              show own_G _ _ _ _ _ _ _ (T121.setTop (mkF m 124 #[.val (.int p1), .val (.int p2), .val (.int p3), .val (.int i3), .val (.int f4), .val (.int pk), .val .null, .val (.ref b1), .val (.int v8), .val (.int v9), .val (.int (1 : Int32)), .unset, .unset] []))
              refine own_st (fun t k => XS.iload X121.here hx rfl (hb hby at_124) rfl k) ?_
              show own_G _ _ _ _ _ _ _ (T121.setTop (mkF m 126 #[.val (.int p1), .val (.int p2), .val (.int p3), .val (.int i3), .val (.int f4), .val (.int pk), .val .null, .val (.ref b1), .val (.int v8), .val (.int v9), .val (.int (1 : Int32)), .unset, .unset] [(.int v8)]))
              by_cases z8 : v8 = (0 : Int32)
              · refine own_st (fun t k => XS.ifYes X121.here hx rfl (pc0 := 126) (pc' := 138) rfl (hb hby at_126) rfl ((if0 _ _).trans (teq z8).1) (by decide) (by decide) k) ?_
                show own_G _ _ _ _ _ _ _ (T121.setTop (mkF m 138 #[.val (.int p1), .val (.int p2), .val (.int p3), .val (.int i3), .val (.int f4), .val (.int pk), .val .null, .val (.ref b1), .val (.int v8), .val (.int v9), .val (.int (1 : Int32)), .unset, .unset] []))
                refine own_st (fun t k => XS.iconst X121.here hx rfl (hb hby at_138) k) ?_
                show own_G _ _ _ _ _ _ _ (T121.setTop (mkF m 139 #[.val (.int p1), .val (.int p2), .val (.int p3), .val (.int i3), .val (.int f4), .val (.int pk), .val .null, .val (.ref b1), .val (.int v8), .val (.int v9), .val (.int (1 : Int32)), .unset, .unset] [(.int (0 : Int32))]))
                exact K3 _ (by rw [hv8] at z8; rw [own_b, if_neg fun q => own_b0 z8 q.1])
              · refine own_st (fun t k => XS.ifNo X121.here hx rfl (hb hby at_126) rfl ((if0 _ _).trans (feq z8).1) k) ?_
                show own_G _ _ _ _ _ _ _ (T121.setTop (mkF m 129 #[.val (.int p1), .val (.int p2), .val (.int p3), .val (.int i3), .val (.int f4), .val (.int pk), .val .null, .val (.ref b1), .val (.int v8), .val (.int v9), .val (.int (1 : Int32)), .unset, .unset] []))
                refine own_st (fun t k => XS.iload X121.here hx rfl (hb hby at_129) rfl k) ?_
                show own_G _ _ _ _ _ _ _ (T121.setTop (mkF m 131 #[.val (.int p1), .val (.int p2), .val (.int p3), .val (.int i3), .val (.int f4), .val (.int pk), .val .null, .val (.ref b1), .val (.int v8), .val (.int v9), .val (.int (1 : Int32)), .unset, .unset] [(.int v9)]))
                by_cases z9 : v9 = (0 : Int32)
                · refine own_st (fun t k => XS.ifYes X121.here hx rfl (pc0 := 131) (pc' := 138) rfl (hb hby at_131) rfl ((if0 _ _).trans (teq z9).1) (by decide) (by decide) k) ?_
                  show own_G _ _ _ _ _ _ _ (T121.setTop (mkF m 138 #[.val (.int p1), .val (.int p2), .val (.int p3), .val (.int i3), .val (.int f4), .val (.int pk), .val .null, .val (.ref b1), .val (.int v8), .val (.int v9), .val (.int (1 : Int32)), .unset, .unset] []))
                  refine own_st (fun t k => XS.iconst X121.here hx rfl (hb hby at_138) k) ?_
                  show own_G _ _ _ _ _ _ _ (T121.setTop (mkF m 139 #[.val (.int p1), .val (.int p2), .val (.int p3), .val (.int i3), .val (.int f4), .val (.int pk), .val .null, .val (.ref b1), .val (.int v8), .val (.int v9), .val (.int (1 : Int32)), .unset, .unset] [(.int (0 : Int32))]))
                  exact K3 _ (by rw [hv9] at z9; rw [own_b, if_neg fun q => own_b0 z9 q.2])
                · refine own_st (fun t k => XS.ifNo X121.here hx rfl (hb hby at_131) rfl ((if0 _ _).trans (feq z9).1) k) ?_
                  show own_G _ _ _ _ _ _ _ (T121.setTop (mkF m 134 #[.val (.int p1), .val (.int p2), .val (.int p3), .val (.int i3), .val (.int f4), .val (.int pk), .val .null, .val (.ref b1), .val (.int v8), .val (.int v9), .val (.int (1 : Int32)), .unset, .unset] []))
                  refine own_st (fun t k => XS.iconst X121.here hx rfl (hb hby at_134) k) ?_
                  show own_G _ _ _ _ _ _ _ (T121.setTop (mkF m 135 #[.val (.int p1), .val (.int p2), .val (.int p3), .val (.int i3), .val (.int f4), .val (.int pk), .val .null, .val (.ref b1), .val (.int v8), .val (.int v9), .val (.int (1 : Int32)), .unset, .unset] [(.int (1 : Int32))]))
                  refine own_st (fun t k => XS.goto X121.here hx rfl (pc0 := 135) (pc' := 139) rfl (hb hby at_135) (by decide) (by decide) k) ?_
                  show own_G _ _ _ _ _ _ _ (T121.setTop (mkF m 139 #[.val (.int p1), .val (.int p2), .val (.int p3), .val (.int i3), .val (.int f4), .val (.int pk), .val .null, .val (.ref b1), .val (.int v8), .val (.int v9), .val (.int (1 : Int32)), .unset, .unset] [(.int (1 : Int32))]))
                  exact K3 _ (by rw [hv8] at z8; rw [hv9] at z9; rw [own_b, if_pos ⟨own_b1 z8, own_b1 z9⟩])
            by_cases z : f4 < (0 : Int32)
            · refine own_st (fun t k => XS.ifYes X121.here hx rfl (pc0 := 97) (pc' := 104) rfl (hb hby at_97) rfl ((if0 _ _).trans (tlt z).1) (by decide) (by decide) k) ?_
              show own_G _ _ _ _ _ _ _ (T121.setTop (mkF m 104 #[.val (.int p1), .val (.int p2), .val (.int p3), .val (.int i3), .val (.int f4), .val (.int pk), .val .null, .val (.ref b1), .val (.int v8), .unset, .unset, .unset, .unset] []))
              refine own_st (fun t k => XS.iconst X121.here hx rfl (hb hby at_104) k) ?_
              show own_G _ _ _ _ _ _ _ (T121.setTop (mkF m 105 #[.val (.int p1), .val (.int p2), .val (.int p3), .val (.int i3), .val (.int f4), .val (.int pk), .val .null, .val (.ref b1), .val (.int v8), .unset, .unset, .unset, .unset] [(.int (0 : Int32))]))
              exact K2 _ (by rw [own_b, if_neg fun q => q z])
            · refine own_st (fun t k => XS.ifNo X121.here hx rfl (hb hby at_97) rfl ((if0 _ _).trans (flt z).1) k) ?_
              show own_G _ _ _ _ _ _ _ (T121.setTop (mkF m 100 #[.val (.int p1), .val (.int p2), .val (.int p3), .val (.int i3), .val (.int f4), .val (.int pk), .val .null, .val (.ref b1), .val (.int v8), .unset, .unset, .unset, .unset] []))
              refine own_st (fun t k => XS.iconst X121.here hx rfl (hb hby at_100) k) ?_
              show own_G _ _ _ _ _ _ _ (T121.setTop (mkF m 101 #[.val (.int p1), .val (.int p2), .val (.int p3), .val (.int i3), .val (.int f4), .val (.int pk), .val .null, .val (.ref b1), .val (.int v8), .unset, .unset, .unset, .unset] [(.int (1 : Int32))]))
              refine own_st (fun t k => XS.goto X121.here hx rfl (pc0 := 101) (pc' := 105) rfl (hb hby at_101) (by decide) (by decide) k) ?_
              show own_G _ _ _ _ _ _ _ (T121.setTop (mkF m 105 #[.val (.int p1), .val (.int p2), .val (.int p3), .val (.int i3), .val (.int f4), .val (.int pk), .val .null, .val (.ref b1), .val (.int v8), .unset, .unset, .unset, .unset] [(.int (1 : Int32))]))
              exact K2 _ (by rw [own_b, if_pos z])
          by_cases z : i3 < (19 : Int32)
          · refine own_st (fun t k => XS.icmpYes X121.here hx rfl (pc0 := 85) (pc' := 92) rfl (hb hby at_85) rfl (tlt z).1 (by decide) (by decide) k) ?_
            show own_G _ _ _ _ _ _ _ (T121.setTop (mkF m 92 #[.val (.int p1), .val (.int p2), .val (.int p3), .val (.int i3), .val (.int f4), .val (.int pk), .val .null, .val (.ref b1), .unset, .unset, .unset, .unset, .unset] []))
            refine own_st (fun t k => XS.iconst X121.here hx rfl (hb hby at_92) k) ?_
            show own_G _ _ _ _ _ _ _ (T121.setTop (mkF m 93 #[.val (.int p1), .val (.int p2), .val (.int p3), .val (.int i3), .val (.int f4), .val (.int pk), .val .null, .val (.ref b1), .unset, .unset, .unset, .unset, .unset] [(.int (0 : Int32))]))
            exact K1 _ (by rw [own_b, if_neg fun q => q z])
          · refine own_st (fun t k => XS.icmpNo X121.here hx rfl (hb hby at_85) rfl (flt z).1 k) ?_
            show own_G _ _ _ _ _ _ _ (T121.setTop (mkF m 88 #[.val (.int p1), .val (.int p2), .val (.int p3), .val (.int i3), .val (.int f4), .val (.int pk), .val .null, .val (.ref b1), .unset, .unset, .unset, .unset, .unset] []))
            refine own_st (fun t k => XS.iconst X121.here hx rfl (hb hby at_88) k) ?_
            show own_G _ _ _ _ _ _ _ (T121.setTop (mkF m 89 #[.val (.int p1), .val (.int p2), .val (.int p3), .val (.int i3), .val (.int f4), .val (.int pk), .val .null, .val (.ref b1), .unset, .unset, .unset, .unset, .unset] [(.int (1 : Int32))]))
            refine own_st (fun t k => XS.goto X121.here hx rfl (pc0 := 89) (pc' := 93) rfl (hb hby at_89) (by decide) (by decide) k) ?_
            show own_G _ _ _ _ _ _ _ (T121.setTop (mkF m 93 #[.val (.int p1), .val (.int p2), .val (.int p3), .val (.int i3), .val (.int f4), .val (.int pk), .val .null, .val (.ref b1), .unset, .unset, .unset, .unset, .unset] [(.int (1 : Int32))]))
            exact K1 _ (by rw [own_b, if_pos z])
    by_cases ka : (p3 &&& (2 : Int32)) = (0 : Int32)
    · refine own_st (fun t k => XS.ifYes X0.here hx rfl (pc0 := 20) (pc' := 31) rfl (hb hby at_20) rfl ((if0 _ _).trans (teq ka).1) (by decide) (by decide) k) ?_
      show own_G _ _ _ _ _ _ _ (s₁.setTop (mkF m 31 #[.val (.int p1), .val (.int p2), .val (.int p3), .val (.int i3), .unset, .unset, .unset, .unset, .unset, .unset, .unset, .unset, .unset] []))
      refine own_st (fun t k => XS.iloadN X0.here hx rfl (hb hby at_31) rfl k) ?_
      show own_G _ _ _ _ _ _ _ (s₁.setTop (mkF m 32 #[.val (.int p1), .val (.int p2), .val (.int p3), .val (.int i3), .unset, .unset, .unset, .unset, .unset, .unset, .unset, .unset, .unset] [(.int p2)]))
      exact J32 _
    · refine own_st (fun t k => XS.ifNo X0.here hx rfl (hb hby at_20) rfl ((if0 _ _).trans (feq ka).1) k) ?_
      show own_G _ _ _ _ _ _ _ (s₁.setTop (mkF m 23 #[.val (.int p1), .val (.int p2), .val (.int p3), .val (.int i3), .unset, .unset, .unset, .unset, .unset, .unset, .unset, .unset, .unset] []))
      refine own_st (fun t k => XS.iloadN X0.here hx rfl (hb hby at_23) rfl k) ?_
      show own_G _ _ _ _ _ _ _ (s₁.setTop (mkF m 24 #[.val (.int p1), .val (.int p2), .val (.int p3), .val (.int i3), .unset, .unset, .unset, .unset, .unset, .unset, .unset, .unset, .unset] [(.int p2)]))
      refine own_st (fun t k => XS.iconst X0.here hx rfl (hb hby at_24) k) ?_
      show own_G _ _ _ _ _ _ _ (s₁.setTop (mkF m 25 #[.val (.int p1), .val (.int p2), .val (.int p3), .val (.int i3), .unset, .unset, .unset, .unset, .unset, .unset, .unset, .unset, .unset] [(.int (3 : Int32)), (.int p2)]))
      refine own_st (fun t k => XS.iand X0.here hx rfl (hb hby at_25) rfl k) ?_
      show own_G _ _ _ _ _ _ _ (s₁.setTop (mkF m 26 #[.val (.int p1), .val (.int p2), .val (.int p3), .val (.int i3), .unset, .unset, .unset, .unset, .unset, .unset, .unset, .unset, .unset] [(.int (p2 &&& (3 : Int32)))]))
      refine own_st (fun t k => XS.iconst X0.here hx rfl (hb hby at_26) k) ?_
      show own_G _ _ _ _ _ _ _ (s₁.setTop (mkF m 27 #[.val (.int p1), .val (.int p2), .val (.int p3), .val (.int i3), .unset, .unset, .unset, .unset, .unset, .unset, .unset, .unset, .unset] [(.int (2 : Int32)), (.int (p2 &&& (3 : Int32)))]))
      refine own_st (fun t k => XS.isub X0.here hx rfl (hb hby at_27) rfl k) ?_
      show own_G _ _ _ _ _ _ _ (s₁.setTop (mkF m 28 #[.val (.int p1), .val (.int p2), .val (.int p3), .val (.int i3), .unset, .unset, .unset, .unset, .unset, .unset, .unset, .unset, .unset] [(.int ((p2 &&& (3 : Int32)) - (2 : Int32)))]))
      refine own_st (fun t k => XS.goto X0.here hx rfl (pc0 := 28) (pc' := 32) rfl (hb hby at_28) (by decide) (by decide) k) ?_
      show own_G _ _ _ _ _ _ _ (s₁.setTop (mkF m 32 #[.val (.int p1), .val (.int p2), .val (.int p3), .val (.int i3), .unset, .unset, .unset, .unset, .unset, .unset, .unset, .unset, .unset] [(.int ((p2 &&& (3 : Int32)) - (2 : Int32)))]))
      exact J32 _
  refine own_st (fun t k => XS.iloadN X0.here hx rfl (hb hby at_0) rfl k) ?_
  show own_G _ _ _ _ _ _ _ (s₁.setTop (mkF m 1 #[.val (.int p1), .val (.int p2), .val (.int p3), .unset, .unset, .unset, .unset, .unset, .unset, .unset, .unset, .unset, .unset] [(.int p3)]))
  refine own_st (fun t k => XS.iconst X0.here hx rfl (hb hby at_1) k) ?_
  show own_G _ _ _ _ _ _ _ (s₁.setTop (mkF m 2 #[.val (.int p1), .val (.int p2), .val (.int p3), .unset, .unset, .unset, .unset, .unset, .unset, .unset, .unset, .unset, .unset] [(.int (1 : Int32)), (.int p3)]))
  refine own_st (fun t k => XS.iand X0.here hx rfl (hb hby at_2) rfl k) ?_
  show own_G _ _ _ _ _ _ _ (s₁.setTop (mkF m 3 #[.val (.int p1), .val (.int p2), .val (.int p3), .unset, .unset, .unset, .unset, .unset, .unset, .unset, .unset, .unset, .unset] [(.int (p3 &&& (1 : Int32)))]))
  by_cases kb : (p3 &&& (1 : Int32)) = (0 : Int32)
  · refine own_st (fun t k => XS.ifYes X0.here hx rfl (pc0 := 3) (pc' := 15) rfl (hb hby at_3) rfl ((if0 _ _).trans (teq kb).1) (by decide) (by decide) k) ?_
    show own_G _ _ _ _ _ _ _ (s₁.setTop (mkF m 15 #[.val (.int p1), .val (.int p2), .val (.int p3), .unset, .unset, .unset, .unset, .unset, .unset, .unset, .unset, .unset, .unset] []))
    refine own_st (fun t k => XS.iloadN X0.here hx rfl (hb hby at_15) rfl k) ?_
    show own_G _ _ _ _ _ _ _ (s₁.setTop (mkF m 16 #[.val (.int p1), .val (.int p2), .val (.int p3), .unset, .unset, .unset, .unset, .unset, .unset, .unset, .unset, .unset, .unset] [(.int p1)]))
    exact J16 _
  · refine own_st (fun t k => XS.ifNo X0.here hx rfl (hb hby at_3) rfl ((if0 _ _).trans (feq kb).1) k) ?_
    show own_G _ _ _ _ _ _ _ (s₁.setTop (mkF m 6 #[.val (.int p1), .val (.int p2), .val (.int p3), .unset, .unset, .unset, .unset, .unset, .unset, .unset, .unset, .unset, .unset] []))
    refine own_st (fun t k => XS.bipush X0.here hx rfl (hb hby at_6) k) ?_
    show own_G _ _ _ _ _ _ _ (s₁.setTop (mkF m 8 #[.val (.int p1), .val (.int p2), .val (.int p3), .unset, .unset, .unset, .unset, .unset, .unset, .unset, .unset, .unset, .unset] [(.int (17 : Int32))]))
    refine own_st (fun t k => XS.iloadN X0.here hx rfl (hb hby at_8) rfl k) ?_
    show own_G _ _ _ _ _ _ _ (s₁.setTop (mkF m 9 #[.val (.int p1), .val (.int p2), .val (.int p3), .unset, .unset, .unset, .unset, .unset, .unset, .unset, .unset, .unset, .unset] [(.int p1), (.int (17 : Int32))]))
    refine own_st (fun t k => XS.iconst X0.here hx rfl (hb hby at_9) k) ?_
    show own_G _ _ _ _ _ _ _ (s₁.setTop (mkF m 10 #[.val (.int p1), .val (.int p2), .val (.int p3), .unset, .unset, .unset, .unset, .unset, .unset, .unset, .unset, .unset, .unset] [(.int (3 : Int32)), (.int p1), (.int (17 : Int32))]))
    refine own_st (fun t k => XS.iand X0.here hx rfl (hb hby at_10) rfl k) ?_
    show own_G _ _ _ _ _ _ _ (s₁.setTop (mkF m 11 #[.val (.int p1), .val (.int p2), .val (.int p3), .unset, .unset, .unset, .unset, .unset, .unset, .unset, .unset, .unset, .unset] [(.int (p1 &&& (3 : Int32))), (.int (17 : Int32))]))
    refine own_st (fun t k => XS.iadd X0.here hx rfl (hb hby at_11) rfl k) ?_
    show own_G _ _ _ _ _ _ _ (s₁.setTop (mkF m 12 #[.val (.int p1), .val (.int p2), .val (.int p3), .unset, .unset, .unset, .unset, .unset, .unset, .unset, .unset, .unset, .unset] [(.int ((17 : Int32) + (p1 &&& (3 : Int32))))]))
    refine own_st (fun t k => XS.goto X0.here hx rfl (pc0 := 12) (pc' := 16) rfl (hb hby at_12) (by decide) (by decide) k) ?_
    show own_G _ _ _ _ _ _ _ (s₁.setTop (mkF m 16 #[.val (.int p1), .val (.int p2), .val (.int p3), .unset, .unset, .unset, .unset, .unset, .unset, .unset, .unset, .unset, .unset] [(.int ((17 : Int32) + (p1 &&& (3 : Int32))))]))
    exact J16 _
set_option maxRecDepth 65536 in
set_option maxHeartbeats 40000000 in
theorem own_comes {Post : Tables → Env → Array Value → State → Outcome → State → Prop} (hpost : ∀ tb e args s v u, (limb_1_1.after args s (.returned v) u = true ∧ limb_1_2.after args s (.returned v) u = true ∧ True) → FrameEnd s (.returned v) u (Jvm.fieldLocs frame_1_writes args s ++ Jvm.arrayLocs frame_1_arrays args s ++ Jvm.staticLocs frame_1_statics s) 16 128 → Post tb e args s (.returned v) u) :
    ArmFor flags0 classFile x code maxLocals ret World_1 tables_1 room_1 Calls_1 rest_1 Pre_1 Post := by
  intro l hfl _ _ p e ha hc hk s m args below hf hA hF happ hP
  obtain ⟨hcalls, hrest, hpre⟩ := hP
  obtain ⟨-, -, -, hnamed, -, -, -, hat⟩ := (Spec.applies_iff hf).mp happ
  obtain ⟨hg, hn⟩ := and_e (Cond.before_iff.mp (show (Jvm.Cond.and given_1 narrow_1).before args s = true from hpre))
  obtain ⟨gc, ga0⟩ := and_e hg
  obtain ⟨gi0, ga1⟩ := and_e ga0
  obtain ⟨gi1, ga2⟩ := and_e ga1
  obtain ⟨w0, w1, w2, rfl⟩ : ∃ w0 w1 w2 : Value, args = #[w0, w1, w2] := by
    have hs : args.size = 3 := by simpa [Cond.value, given_1] using gc
    obtain ⟨L⟩ := args
    match L, hs with
    | [w0, w1, w2], _ => exact ⟨w0, w1, w2, rfl⟩
  have hw := fun d (hd : d ∈ tables_1) => atoms_spec (ws := Jvm.Cond.code x code maxLocals ret :: tables_1) hat d (List.mem_cons_of_mem _ hd)
  have hfit : Fit s := fun {y c} hc i hi => by
    obtain ⟨ha, rfl⟩ := Array.getElem?_eq_some_iff.mp hc
    have q := List.all_eq_true.mp ((Array.all_eq_true_iff_forall_mem.mp hF) _ (Array.getElem_mem ha)) i (List.mem_range.mpr hi)
    simpa [Array.getElem?_eq_getElem hi] using q
  obtain ⟨i0, ei0⟩ := is_v gi0
  obtain rfl : w0 = (.int i0) := Option.some.inj ei0
  obtain ⟨i1, ei1⟩ := is_v gi1
  obtain rfl : w1 = (.int i1) := Option.some.inj ei1
  obtain ⟨i2, ei2⟩ := is_v ga2
  obtain rfl : w2 = (.int i2) := Option.some.inj ei2
  obtain ⟨nr0, nq0⟩ := and_e hn
  obtain ⟨nr1, nq1⟩ := and_e nq0
  obtain ⟨nr2, nq2⟩ := and_e nq1
  obtain ⟨nr3, nq3⟩ := and_e nq2
  obtain ⟨nr4, nq4⟩ := and_e nq3
  obtain ⟨nr5, nq5⟩ := and_e nq4
  obtain ⟨nr6, nq6⟩ := and_e nq5
  obtain ⟨nr7, nq7⟩ := and_e nq6
  obtain ⟨nr8, nq8⟩ := and_e nq7
  obtain ⟨c_ANY, ev_ANY⟩ := exa_v nr0
  have S_ANY := Sta.start ev_ANY (Or.inr ⟨(hw _ (List.mem_of_getElem? (i := 2) rfl)), (hw _ (List.mem_of_getElem? (i := 21) rfl))⟩)
  have A_ANY := Exa.start ev_ANY nr0
  have Fi_ANY := own_ord ev_ANY nr1
  have Ff_ANY := own_ord ev_ANY nr2
  have Fr_ANY := Fld.start ((fld_at ev_ANY).symm.trans (null_v nr3))
  obtain ⟨c_WHOLE, ev_WHOLE⟩ := exa_v nr4
  have S_WHOLE := Sta.start ev_WHOLE (Or.inr ⟨(hw _ (List.mem_of_getElem? (i := 2) rfl)), (hw _ (List.mem_of_getElem? (i := 28) rfl))⟩)
  have A_WHOLE := Exa.start ev_WHOLE nr4
  have Fi_WHOLE := own_ord ev_WHOLE nr5
  have Ff_WHOLE := own_ord ev_WHOLE nr6
  have Fr_WHOLE := Fld.start ((fld_at ev_WHOLE).symm.trans (null_v nr7))
  obtain ⟨c_DOUBLE, ev_DOUBLE⟩ := exa_v nr8
  have S_DOUBLE := Sta.start ev_DOUBLE (Or.inr ⟨(hw _ (List.mem_of_getElem? (i := 30) rfl)), (hw _ (List.mem_of_getElem? (i := 31) rfl))⟩)
  obtain ⟨c_SINGLE, ev_SINGLE⟩ := exa_v nq8
  have S_SINGLE := Sta.start ev_SINGLE (Or.inr ⟨(hw _ (List.mem_of_getElem? (i := 30) rfl)), (hw _ (List.mem_of_getElem? (i := 39) rfl))⟩)
  obtain ⟨n, o, h1, h2, h3, _, L, rfl, ⟨rfl, N⟩, hq⟩ := own_rm0 l s _ hw tables_1 i0 i1 i2 c_ANY c_WHOLE c_DOUBLE c_SINGLE s.heap s.heap.size (Nat.le_refl _) (Old.start s) S_ANY S_WHOLE S_DOUBLE S_SINGLE A_ANY Fi_ANY Ff_ANY Fr_ANY A_WHOLE Fi_WHOLE Ff_WHOLE Fr_WHOLE p e ha hc hk s m _ below hf ((Spec.applies_iff_loose hf).mp happ).1 ⟨rfl, State.Warmed39.refl s, rfl⟩ trivial
  refine ⟨n, _, h1, h2, h3, hpost _ _ _ _ _ _ ⟨Cond.after_iff.mpr rfl, Cond.after_iff.mpr (eq_i res_at (Term.int_eval (1)) rfl), trivial⟩ ⟨hq.1, hq.2.1, (hq.2.2.sift fun y hy => Or.inr (N y hy)).mono (by decide) (by decide)⟩⟩
theorem main_1_1 : Claimed_1_1 := own_comes fun _ _ _ _ _ _ h hF => ⟨h.1, hF⟩
theorem main_1_2 : Claimed_1_2 := own_comes fun _ _ _ _ _ _ h hF => ⟨h.2.1, hF⟩
end Jvm.Pilot.@@N@@
namespace Jvm.Pilot.@@N@@
open Jvm Jvm.ClassFile Sem Op Lib Jvm.Free Jvm.Stand Jvm.Pilot.@@N@@.Jvm.D
/-! MADE BY PROGRAM (witnessworld.py) out of the Statement's table words and the real class files: 16 classes; the members and pool entries that the words name. The judged class is class 1, her method 1. -/
namespace start1
open Jvm.ClassFile
def u (s : String) : CpInfo := .utf8 (stringToUtf16 s)
/-- a pool by its gaps: so many unusable entries, then the entry; so many at the end -/
def gap : Nat → List CpInfo → List CpInfo
  | 0, r => r
  | n + 1, r => .unusable :: gap n r
def poolList (es : List (Nat × CpInfo)) (last : Nat) : List CpInfo := es.foldr (fun e r => gap e.1 (e.2 :: r)) (gap last [])
def pool (es : List (Nat × CpInfo)) (last : Nat) : Array CpInfo := ⟨poolList es last⟩
def fileOf (pool : Array CpInfo) (this : Nat) (attrs : Array Attribute := #[]) (ms : Array MethodInfo := #[]) (fl : Nat := 33) (sup : Nat := 0) (ifs : Array Nat := #[]) (fds : Array FieldInfo := #[]) : ClassFile where
  minorVersion := 0
  majorVersion := 65
  constantPool := pool
  accessFlags := fl
  thisClass := this
  superClass := sup
  interfaces := ifs
  fields := fds
  methods := ms
  attributes := attrs
def plain (name : String) (sup : Option ClassId) : Class where
  name := name
  kind := .ordinary
  loader := none
  accessFlags := 33
  super := sup
  interfaces := #[]
  cf := none
  fields := #[]
  methods := #[]
  instanceTypes := #[]
  staticTypes := #[]
  resolved := #[]
  callSites := []
  init := .initialized
  statics := none
  mirror := none

def pool0 : Array CpInfo := pool [(5, u "<init>"), (0, u "()V"), (1, .class_ 10), (1, u "java/lang/Object")] 113

def k0c0 : Code := { maxStack := 0, maxLocals := 1, code := object_method_1_code, exceptionTable := #[], attributes := #[] }
def k0m0 : Method := { name := "<init>", desc := "()V", sig := { parameters := [], returnType := none }, accessFlags := 1, code := some k0c0 }
/-- java/lang/Object -/
def k0 : Class := { plain "java/lang/Object" none with
  accessFlags := 33
  interfaces := #[]
  cf := some (fileOf pool0 8 #[] #[{ accessFlags := 1, nameIndex := 5, descriptorIndex := 6, attributes := #[] }] 33 0 #[] #[])
  fields := #[]
  methods := #[k0m0]
  instanceTypes := #[]
  staticTypes := #[]
  resolved := Array.replicate 124 none
  statics := none }

def pool1 : Array CpInfo := pool [(2, .class_ 4), (1, u "java/lang/Object"), (0, u "<init>"), (0, u "()V"), (0, .fieldref 8 9), (0, .class_ 10), (0, .nameAndType 11 12), (0, u "stowage/engine/Real"), (0, u "SINGLE"), (0, u "Lstowage/engine/Real;"), (0, .fieldref 8 14), (0, .nameAndType 15 12), (0, u "DOUBLE"), (0, .class_ 17), (0, u "stowage/engine/DeclaredType$Numbers"), (0, .methodref 16 19), (0, .nameAndType 5 20), (0, u "(IILstowage/engine/Real;)V"), (0, .fieldref 16 22), (0, .nameAndType 23 24), (0, u "ANY"), (0, u "Lstowage/engine/DeclaredType$Numbers;"), (0, .methodref 16 26), (0, .nameAndType 27 28), (0, u "holdsEveryLong"), (0, u "()Z"), (0, .fieldref 16 30), (0, .nameAndType 31 24), (0, u "WHOLE"), (0, .methodref 16 33), (0, .nameAndType 34 35), (0, u "of"), (0, u "(Lstowage/engine/Real;)Lstowage/engine/DeclaredType$Numbers;"), (0, .class_ 37), (0, u "stowage/engine/NumbersHoldsEveryLongPinLaw"), (2, u "law"), (0, u "(III)Z")] 7

def k1m0 : Method := { name := "<init>", desc := "()V", sig := { parameters := [], returnType := none }, accessFlags := 1, code := none }
def k1c1 : Code := { maxStack := 5, maxLocals := 13, code := code, exceptionTable := #[], attributes := #[] }
def k1m1 : Method := { name := "law", desc := "(III)Z", sig := { parameters := [.int, .int, .int], returnType := some .boolean }, accessFlags := 9, code := some k1c1 }
/-- stowage/engine/NumbersHoldsEveryLongPinLaw -/
def k1 : Class := { plain "stowage/engine/NumbersHoldsEveryLongPinLaw" (some 0) with
  accessFlags := 49
  interfaces := #[]
  cf := some (fileOf pool1 36 #[] #[{ accessFlags := 1, nameIndex := 5, descriptorIndex := 6, attributes := #[] }, { accessFlags := 9, nameIndex := 40, descriptorIndex := 41, attributes := #[] }] 49 2 #[] #[])
  fields := #[]
  methods := #[k1m0, k1m1]
  instanceTypes := #[]
  staticTypes := #[]
  resolved := Array.replicate 49 none
  statics := none }

def pool2 : Array CpInfo := pool [(1, .methodref 2 3), (0, .class_ 4), (0, .nameAndType 5 6), (0, u "java/lang/Object"), (0, u "<init>"), (0, u "()V"), (0, .class_ 8), (0, u "java/lang/Record")] 13

def k2c0 : Code := { maxStack := 1, maxLocals := 1, code := jdk_30_method_1_code, exceptionTable := #[], attributes := #[] }
def k2m0 : Method := { name := "<init>", desc := "()V", sig := { parameters := [], returnType := none }, accessFlags := 4, code := some k2c0 }
/-- java/lang/Record -/
def k2 : Class := { plain "java/lang/Record" (some 0) with
  accessFlags := 1057
  interfaces := #[]
  cf := some (fileOf pool2 7 #[] #[{ accessFlags := 4, nameIndex := 5, descriptorIndex := 6, attributes := #[] }] 1057 2 #[] #[])
  fields := #[]
  methods := #[k2m0]
  instanceTypes := #[]
  staticTypes := #[]
  resolved := Array.replicate 22 none
  statics := none }

def pool3 : Array CpInfo := pool [(3, .methodref 4 5), (0, .class_ 6), (0, .nameAndType 7 8), (0, u "java/lang/Record"), (0, u "<init>"), (0, u "()V"), (0, .fieldref 10 11), (0, .class_ 12), (0, .nameAndType 13 14), (0, u "stowage/engine/DeclaredType$Numbers"), (0, u "integerDigits"), (0, u "I"), (0, .fieldref 10 16), (0, .nameAndType 17 14), (0, u "fractionDigits"), (0, .fieldref 10 19), (0, .nameAndType 20 21), (0, u "real"), (0, u "Lstowage/engine/Real;"), (0, .integer 2147483647), (0, .methodref 10 24), (0, .nameAndType 7 25), (0, u "(IILstowage/engine/Real;)V"), (24, u "WHOLE"), (0, u "Lstowage/engine/DeclaredType$Numbers;"), (76, u "ANY"), (0, u "UNBOUNDED"), (4, u "of"), (0, u "(Lstowage/engine/Real;)Lstowage/engine/DeclaredType$Numbers;"), (1, u "holdsEveryLong"), (0, u "()Z"), (6, .class_ 146), (0, u "stowage/engine/DeclaredType")] 33

def k3c0 : Code := { maxStack := 2, maxLocals := 4, code := prog_29_method_1_code, exceptionTable := #[], attributes := #[] }
def k3m0 : Method := { name := "<init>", desc := "(IILstowage/engine/Real;)V", sig := { parameters := [.int, .int, (.object "stowage/engine/Real")], returnType := none }, accessFlags := 1, code := some k3c0 }
def k3c1 : Code := { maxStack := 5, maxLocals := 1, code := prog_29_method_2_code, exceptionTable := #[], attributes := #[] }
def k3m1 : Method := { name := "of", desc := "(Lstowage/engine/Real;)Lstowage/engine/DeclaredType$Numbers;", sig := { parameters := [(.object "stowage/engine/Real")], returnType := some (.object "stowage/engine/DeclaredType$Numbers") }, accessFlags := 9, code := some k3c1 }
def k3c2 : Code := { maxStack := 2, maxLocals := 1, code := prog_29_method_4_code, exceptionTable := #[], attributes := #[] }
def k3m2 : Method := { name := "holdsEveryLong", desc := "()Z", sig := { parameters := [], returnType := some .boolean }, accessFlags := 0, code := some k3c2 }
/-- stowage/engine/DeclaredType$Numbers -/
def k3 : Class := { plain "stowage/engine/DeclaredType$Numbers" (some 2) with
  accessFlags := 49
  interfaces := #[]
  cf := some (fileOf pool3 10 #[.nestHost 145] #[{ accessFlags := 1, nameIndex := 7, descriptorIndex := 25, attributes := #[] }, { accessFlags := 9, nameIndex := 134, descriptorIndex := 135, attributes := #[] }, { accessFlags := 0, nameIndex := 137, descriptorIndex := 138, attributes := #[] }] 49 4 #[] #[{ accessFlags := 18, nameIndex := 13, descriptorIndex := 14, attributes := #[] }, { accessFlags := 18, nameIndex := 17, descriptorIndex := 14, attributes := #[] }, { accessFlags := 18, nameIndex := 20, descriptorIndex := 21, attributes := #[] }, { accessFlags := 25, nameIndex := 129, descriptorIndex := 14, attributes := #[] }, { accessFlags := 25, nameIndex := 128, descriptorIndex := 51, attributes := #[] }, { accessFlags := 25, nameIndex := 50, descriptorIndex := 51, attributes := #[] }])
  fields := #[{ name := "integerDigits", type := .int, accessFlags := 18, slot := 0, constantValue := 0 }, { name := "fractionDigits", type := .int, accessFlags := 18, slot := 1, constantValue := 0 }, { name := "real", type := (.object "stowage/engine/Real"), accessFlags := 18, slot := 2, constantValue := 0 }, { name := "UNBOUNDED", type := .int, accessFlags := 25, slot := 0, constantValue := 0 }, { name := "ANY", type := (.object "stowage/engine/DeclaredType$Numbers"), accessFlags := 25, slot := 1, constantValue := 0 }, { name := "WHOLE", type := (.object "stowage/engine/DeclaredType$Numbers"), accessFlags := 25, slot := 2, constantValue := 0 }]
  methods := #[k3m0, k3m1, k3m2]
  instanceTypes := #[.int, .int, (.object "stowage/engine/Real")]
  staticTypes := #[.int, (.object "stowage/engine/DeclaredType$Numbers"), (.object "stowage/engine/DeclaredType$Numbers")]
  resolved := Array.replicate 180 none
  statics := some 0 }

def pool4 : Array CpInfo := pool [(1, .class_ 2), (0, u "java/lang/constant/Constable"), (0, .class_ 4), (0, u "java/lang/Object")] 6

/-- java/lang/constant/Constable -/
def k4 : Class := { plain "java/lang/constant/Constable" (some 0) with
  accessFlags := 1537
  interfaces := #[]
  cf := some (fileOf pool4 1 #[] #[] 1537 3 #[] #[])
  fields := #[]
  methods := #[]
  instanceTypes := #[]
  staticTypes := #[]
  resolved := Array.replicate 11 none
  statics := none }

def pool5 : Array CpInfo := pool [(1, .class_ 2), (0, u "java/lang/Comparable"), (0, .class_ 4), (0, u "java/lang/Object")] 7

/-- java/lang/Comparable -/
def k5 : Class := { plain "java/lang/Comparable" (some 0) with
  accessFlags := 1537
  interfaces := #[]
  cf := some (fileOf pool5 1 #[] #[] 1537 3 #[] #[])
  fields := #[]
  methods := #[]
  instanceTypes := #[]
  staticTypes := #[]
  resolved := Array.replicate 12 none
  statics := none }

def pool6 : Array CpInfo := pool [(1, .class_ 2), (0, u "java/io/Serializable"), (0, .class_ 4), (0, u "java/lang/Object")] 2

/-- java/io/Serializable -/
def k6 : Class := { plain "java/io/Serializable" (some 0) with
  accessFlags := 1537
  interfaces := #[]
  cf := some (fileOf pool6 1 #[] #[] 1537 3 #[] #[])
  fields := #[]
  methods := #[]
  instanceTypes := #[]
  staticTypes := #[]
  resolved := Array.replicate 7 none
  statics := none }

def pool7 : Array CpInfo := pool [(2, .class_ 4), (1, u "java/lang/Enum"), (0, u "name"), (0, u "Ljava/lang/String;"), (2, u "ordinal"), (0, u "I"), (1, .class_ 14), (1, u "java/lang/Object"), (4, u "hash"), (86, .class_ 108), (1, u "java/lang/Enum$EnumDesc"), (2, .class_ 112), (0, u "java/lang/constant/Constable"), (0, .class_ 114), (0, u "java/lang/Comparable"), (0, .class_ 116), (0, u "java/io/Serializable")] 87

/-- java/lang/Enum -/
def k7 : Class := { plain "java/lang/Enum" (some 0) with
  accessFlags := 1057
  interfaces := #[4, 5, 6]
  cf := some (fileOf pool7 2 #[.nestMembers #[106]] #[] 1057 12 #[111, 113, 115] #[{ accessFlags := 18, nameIndex := 5, descriptorIndex := 6, attributes := #[] }, { accessFlags := 18, nameIndex := 9, descriptorIndex := 10, attributes := #[] }, { accessFlags := 2, nameIndex := 19, descriptorIndex := 10, attributes := #[] }])
  fields := #[{ name := "name", type := (.object "java/lang/String"), accessFlags := 18, slot := 0, constantValue := 0 }, { name := "ordinal", type := .int, accessFlags := 18, slot := 1, constantValue := 0 }, { name := "hash", type := .int, accessFlags := 2, slot := 2, constantValue := 0 }]
  methods := #[]
  instanceTypes := #[(.object "java/lang/String"), .int, .int]
  staticTypes := #[]
  resolved := Array.replicate 204 none
  statics := none }

def pool8 : Array CpInfo := pool [(1, .class_ 2), (0, u "stowage/engine/Real"), (2, u "SINGLE"), (0, u "Lstowage/engine/Real;"), (2, u "DOUBLE"), (2, u "$VALUES"), (0, u "[Lstowage/engine/Real;"), (6, .class_ 22), (1, u "java/lang/Enum"), (8, u "digits"), (0, u "I"), (2, u "leastNormal"), (0, u "D"), (2, u "least"), (0, u "Ljava/math/BigDecimal;"), (2, u "greatest"), (44, .class_ 89), (0, u "stowage/engine/Real$1"), (17, .class_ 108), (0, u "stowage/engine/Real$2")] 47

/-- stowage/engine/Real -/
def k8 : Class := { plain "stowage/engine/Real" (some 7) with
  accessFlags := 17441
  interfaces := #[]
  cf := some (fileOf pool8 1 #[.nestMembers #[107, 88]] #[] 17441 20 #[] #[{ accessFlags := 16409, nameIndex := 5, descriptorIndex := 6, attributes := #[] }, { accessFlags := 16409, nameIndex := 9, descriptorIndex := 6, attributes := #[] }, { accessFlags := 18, nameIndex := 31, descriptorIndex := 32, attributes := #[] }, { accessFlags := 18, nameIndex := 35, descriptorIndex := 36, attributes := #[] }, { accessFlags := 18, nameIndex := 39, descriptorIndex := 40, attributes := #[] }, { accessFlags := 18, nameIndex := 43, descriptorIndex := 40, attributes := #[] }, { accessFlags := 4122, nameIndex := 12, descriptorIndex := 13, attributes := #[] }])
  fields := #[{ name := "SINGLE", type := (.object "stowage/engine/Real"), accessFlags := 16409, slot := 0, constantValue := 0 }, { name := "DOUBLE", type := (.object "stowage/engine/Real"), accessFlags := 16409, slot := 1, constantValue := 0 }, { name := "digits", type := .int, accessFlags := 18, slot := 3, constantValue := 0 }, { name := "leastNormal", type := .double, accessFlags := 18, slot := 4, constantValue := 0 }, { name := "least", type := (.object "java/math/BigDecimal"), accessFlags := 18, slot := 5, constantValue := 0 }, { name := "greatest", type := (.object "java/math/BigDecimal"), accessFlags := 18, slot := 6, constantValue := 0 }, { name := "$VALUES", type := (.array (.object "stowage/engine/Real")), accessFlags := 4122, slot := 2, constantValue := 0 }]
  methods := #[]
  instanceTypes := #[(.object "java/lang/String"), .int, .int, .int, .double, (.object "java/math/BigDecimal"), (.object "java/math/BigDecimal")]
  staticTypes := #[(.object "stowage/engine/Real"), (.object "stowage/engine/Real"), (.array (.object "stowage/engine/Real"))]
  resolved := Array.replicate 156 none
  statics := some 1 }

def pool9 : Array CpInfo := pool [(2, .class_ 4), (1, u "stowage/engine/Real"), (8, .class_ 14), (0, u "stowage/engine/Real$2")] 10

/-- stowage/engine/Real$2 -/
def k9 : Class := { plain "stowage/engine/Real$2" (some 8) with
  accessFlags := 16432
  interfaces := #[]
  cf := some (fileOf pool9 13 #[.nestHost 2] #[] 16432 2 #[] #[])
  fields := #[]
  methods := #[]
  instanceTypes := #[(.object "java/lang/String"), .int, .int, .int, .double, (.object "java/math/BigDecimal"), (.object "java/math/BigDecimal")]
  staticTypes := #[]
  resolved := Array.replicate 25 none
  statics := none }

def pool10 : Array CpInfo := pool [(2, .class_ 4), (1, u "stowage/engine/Real"), (8, .class_ 14), (0, u "stowage/engine/Real$1")] 10

/-- stowage/engine/Real$1 -/
def k10 : Class := { plain "stowage/engine/Real$1" (some 8) with
  accessFlags := 16432
  interfaces := #[]
  cf := some (fileOf pool10 13 #[.nestHost 2] #[] 16432 2 #[] #[])
  fields := #[]
  methods := #[]
  instanceTypes := #[(.object "java/lang/String"), .int, .int, .int, .double, (.object "java/math/BigDecimal"), (.object "java/math/BigDecimal")]
  staticTypes := #[]
  resolved := Array.replicate 25 none
  statics := none }

def pool11 : Array CpInfo := pool [(1, u "java/lang/Cloneable"), (0, .class_ 1), (0, u "java/lang/Object"), (0, .class_ 3)] 3

/-- java/lang/Cloneable -/
def k11 : Class := { plain "java/lang/Cloneable" (some 0) with
  accessFlags := 1537
  interfaces := #[]
  cf := some (fileOf pool11 2 #[] #[] 1537 4 #[] #[])
  fields := #[]
  methods := #[]
  instanceTypes := #[]
  staticTypes := #[]
  resolved := Array.replicate 8 none
  statics := none }

/-- the primitive byte -/
def k12 : Class := { plain "byte" none with kind := .primitive 'B', accessFlags := 0x411 }
/-- [B -/
def k13 : Class := { plain "[B" (some 0) with kind := .array 12 .byte, interfaces := #[11, 6], accessFlags := 1041 }

/-- the primitive int -/
def k14 : Class := { plain "int" none with kind := .primitive 'I', accessFlags := 0x411 }
/-- [I -/
def k15 : Class := { plain "[I" (some 0) with kind := .array 14 .int, interfaces := #[11, 6], accessFlags := 1041 }

def heap : Heap := #[{ cls := 3, slots := #[.int 0, .ref 2, .ref 3], vm := .statics 3 },
  { cls := 8, slots := #[.ref 5, .ref 4, .null], vm := .statics 8 },
  { cls := 3, slots := #[.int 2147483647, .int 2147483647, .null], vm := .none },
  { cls := 3, slots := #[.int 2147483647, .int 0, .null], vm := .none },
  { cls := 9, slots := #[.null, .int 1, .int 0, .int 0, .double 0, .null, .null], vm := .none },
  { cls := 10, slots := #[.null, .int 0, .int 0, .int 0, .double 0, .null, .null], vm := .none }]
def classes : Array Class := #[k0, k1, k2, k3, k4, k5, k6, k7, k8, k9, k10, k11, k12, k13, k14, k15]
def interned : List (Array UInt16 × Addr) := []
def slotsUsed : Nat := 26
def theMethod : MethodId := ⟨1, 1⟩
def args0 : Array Value := #[.int 5, .int 6, .int 3]
def aboutOver (below : List Frame) : State where
  vm := { classes := classes, interned := interned.toArray }
  heap := heap
  slotsUsed := slotsUsed
  threads := #[{ frames := .invoking theMethod args0 :: below }]
def below0 : List Frame := [.native { method := ⟨0, 0⟩, args := #[] }]
def about1 : State := aboutOver below0
def p0 : Program := .bare "" "" ""
def e0 : Env := launch0.env 0 0 0
theorem w_frames : about1.frames = Frame.invoking theMethod args0 :: below0 := rfl
set_option maxRecDepth 65536 in
theorem w_args : argsFit about1.vm theMethod args0 = true := by decide +kernel
set_option maxRecDepth 65536 in
theorem w_heap : heapFits about1 = true := by decide +kernel
set_option maxRecDepth 65536 in
theorem w_runnable : about1.curStatus? = some .runnable := by decide +kernel
set_option maxRecDepth 65536 in
theorem w_alone : about1.alone = true := by decide +kernel
set_option maxRecDepth 65536 in
theorem w_named : about1.methodNamed? x = some theMethod := by decide +kernel
set_option maxRecDepth 65536 in
theorem w_hears : about1.hears theMethod below0 = true := by decide +kernel
set_option maxRecDepth 65536 in
theorem w_ripe : about1.ripe theMethod args0 below0 = true := by decide +kernel
theorem w_running : about1.status = .running := rfl
set_option maxRecDepth 65536 in
theorem w_room : about1.hasRoom e0.platform room_1 = true :=
  launch0.hasRoom_least _ room_1 (by decide +kernel) (by decide +kernel) (by decide +kernel) (by decide +kernel) (by decide +kernel) (by decide +kernel)
theorem allAtoms_all (ts : List Jvm.Cond) (a : Array Jvm.Value) (st : Jvm.State) : (allAtoms ts).before a st = ts.all (fun c => c.before a st) := by
  induction ts with
  | nil => rfl
  | cons c t ih =>
    show (Jvm.Cond.and c (allAtoms t)).before a st = _
    rw [Jvm.Cond.before_and, ih, List.all_cons]
def words1 : List Jvm.Cond := Jvm.Cond.code x code maxLocals ret :: tables_1
/-- a 'code' word, met by the world's own term for the bytes: nothing is compared byte by byte -/
theorem code_word {y : MethodName} {bytes : ByteArray} {mx : Nat} {rt : Option FieldType} {a : Array Value} {s : State} {m : MethodId} {meth : Method} {c : Code} (h1 : s.methodNamed? y = some m) (h2 : s.vm.method? m = some meth) (h3 : meth.code = some c) (h4 : c.code = bytes)
    (h5 : (c.maxLocals == mx && c.exceptionTable.isEmpty && decide (c.maxStack ≤ mostOperands) && decide (meth.sig.returnType = rt) && !meth.locks && decide (parseMethodDescriptor y.desc = some meth.sig)) = true) : (Jvm.Cond.code y bytes mx rt).before a s = true := by
  simp only [Bool.and_eq_true, beq_iff_eq, Bool.not_eq_true', decide_eq_true_eq] at h5
  obtain ⟨⟨⟨⟨⟨g1, g2⟩, g3⟩, g4⟩, g5⟩, g6⟩ := h5
  simp [Cond.before, Cond.holds, Cond.value, h1, h2, h3, h4, g1, g2, g3, g4, g5, g6]
def isCode : Jvm.Cond → Bool
  | .code _ _ _ _ => true
  | _ => false
theorem all_split {L : List Jvm.Cond} {P : Jvm.Cond → Bool} (h1 : L.all (fun c => isCode c || P c) = true) (h2 : ∀ c ∈ L.filter isCode, P c = true) : L.all P = true := by
  refine List.all_eq_true.mpr fun c hc => ?_
  have h := List.all_eq_true.mp h1 c hc
  rcases Bool.eq_false_or_eq_true (isCode c) with hi | hi
  · exact h2 c (List.mem_filter.mpr ⟨hc, hi⟩)
  · simpa [hi] using h
set_option maxRecDepth 65536 in
theorem w_c0 : (Jvm.Cond.code x code maxLocals ret).before args0 about1 = true := code_word (m := ⟨1, 1⟩) (meth := k1m1) (c := k1c1) (by decide +kernel) rfl rfl rfl (by decide +kernel)
set_option maxRecDepth 65536 in
theorem w_c1 : (Jvm.Cond.code ({ cls := "stowage/engine/DeclaredType$Numbers", name := "<init>", desc := "(IILstowage/engine/Real;)V" } : Jvm.MethodName) prog_29_method_1_code (4 : Nat) (Option.none : Option Jvm.ClassFile.FieldType)).before args0 about1 = true := code_word (m := ⟨3, 0⟩) (meth := k3m0) (c := k3c0) (by decide +kernel) rfl rfl rfl (by decide +kernel)
set_option maxRecDepth 65536 in
theorem w_c2 : (Jvm.Cond.code ({ cls := "java/lang/Record", name := "<init>", desc := "()V" } : Jvm.MethodName) jdk_30_method_1_code (1 : Nat) (Option.none : Option Jvm.ClassFile.FieldType)).before args0 about1 = true := code_word (m := ⟨2, 0⟩) (meth := k2m0) (c := k2c0) (by decide +kernel) rfl rfl rfl (by decide +kernel)
set_option maxRecDepth 65536 in
theorem w_c3 : (Jvm.Cond.code ({ cls := "java/lang/Object", name := "<init>", desc := "()V" } : Jvm.MethodName) object_method_1_code (1 : Nat) (Option.none : Option Jvm.ClassFile.FieldType)).before args0 about1 = true := code_word (m := ⟨0, 0⟩) (meth := k0m0) (c := k0c0) (by decide +kernel) rfl rfl rfl (by decide +kernel)
set_option maxRecDepth 65536 in
theorem w_c4 : (Jvm.Cond.code ({ cls := "stowage/engine/DeclaredType$Numbers", name := "holdsEveryLong", desc := "()Z" } : Jvm.MethodName) prog_29_method_4_code (1 : Nat) (Option.some Jvm.ClassFile.FieldType.boolean)).before args0 about1 = true := code_word (m := ⟨3, 2⟩) (meth := k3m2) (c := k3c2) (by decide +kernel) rfl rfl rfl (by decide +kernel)
set_option maxRecDepth 65536 in
theorem w_c5 : (Jvm.Cond.code ({ cls := "stowage/engine/DeclaredType$Numbers", name := "of", desc := "(Lstowage/engine/Real;)Lstowage/engine/DeclaredType$Numbers;" } : Jvm.MethodName) prog_29_method_2_code (1 : Nat) (Option.some (Jvm.ClassFile.FieldType.object "stowage/engine/DeclaredType$Numbers"))).before args0 about1 = true := code_word (m := ⟨3, 1⟩) (meth := k3m1) (c := k3c1) (by decide +kernel) rfl rfl rfl (by decide +kernel)
def codes1 : List Jvm.Cond := [Jvm.Cond.code x code maxLocals ret, Jvm.Cond.code ({ cls := "stowage/engine/DeclaredType$Numbers", name := "<init>", desc := "(IILstowage/engine/Real;)V" } : Jvm.MethodName) prog_29_method_1_code (4 : Nat) (Option.none : Option Jvm.ClassFile.FieldType), Jvm.Cond.code ({ cls := "java/lang/Record", name := "<init>", desc := "()V" } : Jvm.MethodName) jdk_30_method_1_code (1 : Nat) (Option.none : Option Jvm.ClassFile.FieldType), Jvm.Cond.code ({ cls := "java/lang/Object", name := "<init>", desc := "()V" } : Jvm.MethodName) object_method_1_code (1 : Nat) (Option.none : Option Jvm.ClassFile.FieldType), Jvm.Cond.code ({ cls := "stowage/engine/DeclaredType$Numbers", name := "holdsEveryLong", desc := "()Z" } : Jvm.MethodName) prog_29_method_4_code (1 : Nat) (Option.some Jvm.ClassFile.FieldType.boolean), Jvm.Cond.code ({ cls := "stowage/engine/DeclaredType$Numbers", name := "of", desc := "(Lstowage/engine/Real;)Lstowage/engine/DeclaredType$Numbers;" } : Jvm.MethodName) prog_29_method_2_code (1 : Nat) (Option.some (Jvm.ClassFile.FieldType.object "stowage/engine/DeclaredType$Numbers"))]
set_option maxRecDepth 65536 in
theorem codes_eq : words1.filter isCode = codes1 := rfl
theorem w_codes : ∀ c ∈ words1.filter isCode, c.before args0 about1 = true := by
  rw [codes_eq]
  intro c hc
  simp only [codes1, List.mem_cons, List.not_mem_nil, or_false] at hc
  rcases hc with rfl | rfl | rfl | rfl | rfl | rfl
  · exact w_c0
  · exact w_c1
  · exact w_c2
  · exact w_c3
  · exact w_c4
  · exact w_c5
set_option maxRecDepth 65536 in
theorem w_t1 : (words1.take 24).all (fun c => isCode c || c.before args0 about1) = true := by decide +kernel
set_option maxRecDepth 65536 in
theorem w_t2 : (words1.drop 24).all (fun c => isCode c || c.before args0 about1) = true := by decide +kernel
theorem w_tables : (allAtoms (Jvm.Cond.code x code maxLocals ret :: tables_1)).before args0 about1 = true := by
  rw [allAtoms_all]
  show words1.all (fun c => c.before args0 about1) = true
  refine all_split ?_ w_codes
  rw [← List.take_append_drop 24 words1, List.all_append, w_t1, w_t2]
  rfl
set_option maxRecDepth 65536 in
theorem w_case : (Jvm.Cond.and given_1 narrow_1).before args0 about1 = true := by decide +kernel
theorem w_applies : (headSpec (Jvm.Cond.code x code maxLocals ret :: tables_1) room_1).applies x e0.platform about1 = true :=
  (Spec.applies_iff w_frames).mpr ⟨w_running, w_runnable, w_alone, w_named, w_hears, w_ripe, w_room, w_tables⟩
theorem atStart : AtStart classFile x code maxLocals ret World_1 tables_1 room_1 Calls_1 rest_1 Pre_1 launch0 p0 e0 about1 theMethod args0 below0 :=
  ⟨lists_1, trivial, launch0.admits_env _ _ _, launch0.least_env, fairChoices_fair.cas, fairChoices_fair.clock, w_frames, w_args, w_heap, w_applies, trivial, trivial, w_case⟩
end start1
theorem witness_1 : WitnessClaimed_1 := ⟨start1.p0, start1.e0, start1.about1, start1.theMethod, start1.args0, start1.below0, start1.atStart⟩
end Jvm.Pilot.@@N@@
