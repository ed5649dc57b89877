import JvmDerived
import JvmDerived.Pilot.@@N@@Statement
import JvmDerived.Pilot.@@N@@Code
set_option linter.unusedVariables false
set_option linter.unusedSimpArgs false
@@BLOCK:NumsL.lean.txt@@
namespace Jvm.Pilot.@@N@@
open Jvm Jvm.ClassFile Sem Op Lib Jvm.Free Jvm.Stand Jvm.LawKit Jvm.RoadKit Bundle Jvm.Pilot.@@N@@.Jvm.D
/-! the goal that a walk carries along: from this state the run comes to the method's end, and Q holds there -/
def own_G (tb : Tables) (e : Env) (below : List Frame) (s : State) (Q : Option Value → Heap → List Loc → Prop) (kc ks : Nat) (st : State) : Prop :=
  ∃ u o, Steps tb e below st u ∧ u.status = .running ∧ Ended u below o ∧ ∃ v L, o = .returned v ∧ Q v u.heap L ∧ FrameEnd s o u L kc ks
theorem own_in {tb : Tables} {e : Env} {below : List Frame} {s : State} {Q : Option Value → Heap → List Loc → Prop} {kc ks : Nat} {st : State} (h : own_G tb e below s Q kc ks st) :
    ∃ u o, Steps tb e below st u ∧ u.status = .running ∧ Ended u below o ∧ ∃ v L, o = .returned v ∧ Q v u.heap L ∧ FrameEnd s o u L kc ks := h
theorem own_st {tb : Tables} {e : Env} {below : List Frame} {s : State} {Q : Option Value → Heap → List Loc → Prop} {kc ks : Nat} {a b : State} (k : ∀ t, Steps tb e below b t → Steps tb e below a t) (h : own_G tb e below s Q kc ks b) : own_G tb e below s Q kc ks a := by
  obtain ⟨u, o, h1, h2⟩ := h; exact ⟨u, o, k u h1, h2⟩
section OwnRet
variable {p : Program} {l : Launch} {e : Env} {R : Room} {s : State} {m : MethodId} {args : Array Value} {below : List Frame} {meth : Method} {c : Code} {T : State} {locs : List Loc} {cells slots : Nat} {Q : Option Value → Heap → List Loc → Prop} {kc ks : Nat} {pc : Nat} {Ls : Array Slot} {rest : List Value}
theorem own_ret (X : Stand p l e R s m args below meth c T locs cells slots) {v : Option Value} (hv : meth.sig.returnType = none → v = none) (hlk : meth.locks = false) (hc : cells ≤ kc) (hs : slots ≤ ks) (hQ : Q v T.heap locs) {st : State}
    (step : ∀ fs, (∀ (f : JFrame) (acts : List Action), f.method = m → f.locked = none → f.entered = [] → (doReturn e (T.setTop f) acts v).1 = T.setFrames fs) → Steps p.tables e below st (T.setFrames fs)) : own_G p.tables e below s Q kc ks st := by
  obtain ⟨fs, hr, hrun, hended, hW, hsame⟩ := X.leave (v := v) hv hlk
  exact ⟨_, _, step fs hr, hrun, hended, _, _, rfl, hQ, ⟨_, rfl⟩, hW, hsame.mono hc hs⟩
theorem own_retV (X : Stand p l e R s m args below meth c T locs cells slots) (hx : p.tables.exec = Jvm.exec) (hret : meth.sig.returnType = none) (hlk : meth.locks = false) (hd : decode c.code pc = .ok (.return_, 1)) (hc : cells ≤ kc) (hs : slots ≤ ks) (hQ : Q none T.heap locs) : own_G p.tables e below s Q kc ks (T.setTop (mkF m pc Ls [])) :=
  own_ret X (v := none) (fun _ => rfl) hlk hc hs hQ fun _ hr => X.returnOut hx hret hd hr
theorem own_retI {z : Int32} (X : Stand p l e R s m args below meth c T locs cells slots) (hx : p.tables.exec = Jvm.exec) (hret : meth.sig.returnType = some .int) (hlk : meth.locks = false) (hd : decode c.code pc = .ok (.ireturn, 1)) (hc : cells ≤ kc) (hs : slots ≤ ks) (hQ : Q (some (.int z)) T.heap locs) : own_G p.tables e below s Q kc ks (T.setTop (mkF m pc Ls (.int z :: rest))) :=
  own_ret X (v := some (.int z)) (fun h => by rw [hret] at h; cases h) hlk hc hs hQ fun _ hr => retOut X hx hret rfl (Or.inl ⟨rfl, Or.inl rfl, z, rfl⟩) hd hr
theorem own_retJ {z : Int64} (X : Stand p l e R s m args below meth c T locs cells slots) (hx : p.tables.exec = Jvm.exec) (hret : meth.sig.returnType = some .long) (hlk : meth.locks = false) (hd : decode c.code pc = .ok (.lreturn, 1)) (hc : cells ≤ kc) (hs : slots ≤ ks) (hQ : Q (some (.long z)) T.heap locs) : own_G p.tables e below s Q kc ks (T.setTop (mkF m pc Ls (.long z :: rest))) :=
  own_ret X (v := some (.long z)) (fun h => by rw [hret] at h; cases h) hlk hc hs hQ fun _ hr => retOut X hx hret rfl (Or.inr (Or.inl ⟨rfl, rfl, z, rfl⟩)) hd hr
theorem own_retA {ft : FieldType} {w : Value} (ht : ft.isReference = true) (hw : w.isRef = true) (X : Stand p l e R s m args below meth c T locs cells slots) (hx : p.tables.exec = Jvm.exec) (hret : meth.sig.returnType = some ft) (hlk : meth.locks = false) (hd : decode c.code pc = .ok (.areturn, 1)) (hc : cells ≤ kc) (hs : slots ≤ ks) (hQ : Q (some w) T.heap locs) : own_G p.tables e below s Q kc ks (T.setTop (mkF m pc Ls (w :: rest))) :=
  own_ret X (v := some w) (fun h => by rw [hret] at h; cases h) hlk hc hs hQ fun _ hr => retOut X hx hret (by cases ft <;> first | (cases ht; done) | (cases w <;> first | rfl | cases hw)) (Or.inr (Or.inr (Or.inr (Or.inr ⟨rfl, ht, hw⟩)))) hd hr
theorem own_retN {t : FieldType} {z : Int32} (ht : t = .boolean ∨ t = .byte ∨ t = .char ∨ t = .short) (X : Stand p l e R s m args below meth c T locs cells slots) (hx : p.tables.exec = Jvm.exec) (hret : meth.sig.returnType = some t) (hlk : meth.locks = false) (hd : decode c.code pc = .ok (.ireturn, 1)) (hc : cells ≤ kc) (hs : slots ≤ ks) (hQ : Q (some (.int (nar t z))) T.heap locs) : own_G p.tables e below s Q kc ks (T.setTop (mkF m pc Ls (.int z :: rest))) :=
  own_ret X (v := some (.int (nar t z))) (fun h => by rw [hret] at h; cases h) hlk hc hs hQ fun _ hr => retN X hx hret ht hd hr
end OwnRet
def own_b (P : Prop) [Decidable P] : Int32 := if P then 1 else 0
theorem own_bT {P : Prop} [Decidable P] (h : P) : some (Value.int (nar .boolean (1 : Int32))) = some (Value.int (own_b P)) := by rw [own_b, if_pos h]; rfl
theorem own_bF {P : Prop} [Decidable P] (h : ¬ P) : some (Value.int (nar .boolean (0 : Int32))) = some (Value.int (own_b P)) := by rw [own_b, if_neg h]; rfl
theorem own_bEq {P P' : Prop} [Decidable P] [Decidable P'] (h : P ↔ P') : own_b P = own_b P' := by simp only [own_b, h]
/-- a body that writes nothing: what it returns, the heap as it was -/
def own_Qp (r : Option Value) (h0 : Heap) (n0 : Nat) (v : Option Value) (h : Heap) (L : List Loc) : Prop := v = r ∧ Fr n0 L ∧ h = h0
/-- the law's own end: it returns 1, nothing old is written -/
def own_Q0 (n0 : Nat) (v : Option Value) (h : Heap) (L : List Loc) : Prop := v = some (.int 1) ∧ Fr n0 L
theorem own_ord {s : State} {args : Array Value} {t : Term} {a : Addr} {C n d : String} {k : Int32} (ev : t.eval args s none [] s = some (.ref a)) (h : (Jvm.Cond.eq (Term.field t C n d) (Term.int k)).value args s none s [] = some true) : Fld s s.heap a C n d (.int k) := by
  obtain ⟨x, y, e1, e2, -, k2⟩ := cmp_v (Or.inl h)
  obtain rfl : Value.int k = y := Option.some.inj e2
  obtain ⟨z, rfl⟩ := k2
  have q : z = k := by simpa [Jvm.Cond.value, e1, e2] using h
  subst q
  exact Fld.start ((fld_at ev).symm.trans e1)
theorem own_len {s : State} {args : Array Value} {t : Term} {a : Addr} {c : Cell} {ty : FieldType} {n : Int32} (ev : t.eval args s none [] s = some (.ref a)) (A : Arr s s.heap a c ty) (h : (Jvm.Cond.eq (Term.length t) (Term.int n)).value args s none s [] = some true) : c.slots.size < 2 ^ 31 ∧ c.slots.size.toInt32 = n := by
  have q := eqv_i (Term.int_eval n) h
  have f := A.fin (Vm.Alike.refl _)
  have z : c.slots.size < 2147483648 ∧ c.slots.size.toInt32 = n := by simpa [Term.eval, ev, f] using q
  exact z
theorem own_eqr {s : State} {args : Array Value} {X F : Term} {y : Addr} (hF : F.eval args s none [] s = some (.ref y)) (h : (Jvm.Cond.eq X F).value args s none s [] = some true) : X.eval args s none [] s = some (.ref y) := by
  obtain ⟨x, y', e1, e2, k1, k2⟩ := cmp_v (Or.inl h)
  cases hF.symm.trans e2
  have hx : x.isRef = true := k2.2
  have q := gotT (eq_R e1 hF hx rfl) h
  rw [q] at e1; exact e1
theorem own_el {s : State} {args : Array Value} {t : Term} {a : Addr} {c : Cell} {ty : FieldType} {j : Int32} {v : Value} (ev : t.eval args s none [] s = some (.ref a)) (A : Arr s s.heap a c ty) (h : (Term.elem t (Term.int j)).eval args s none [] s = some v) : c.slots[j.toNatClampNeg]? = some v := (elem_in h ev (Term.int_eval j) A.1).2
theorem own_nea {Z : State} {h : Heap} {a b : Addr} {C : String} {a0 : Array Value} {k : Nat} {kc : ClassId} {ty : FieldType} {z : Int32} {vs : List Value} {d : Value} (F : Exa Z h a C) (wi : (Jvm.Cond.instantiable C k).before a0 Z = true) (V : Arv Z h b kc ty z vs d) : a ≠ b := by
  obtain ⟨c, A, -⟩ := V; exact ne_arr F wi A
theorem own_pd0 : parseMethodDescriptor "(IIIII)Z" = some ⟨[.int, .int, .int, .int, .int], some .boolean⟩ := by decide +kernel
theorem own_pd1 : parseMethodDescriptor "()V" = some ⟨[], none⟩ := by decide +kernel
theorem own_pd2 : parseMethodDescriptor "(Ljava/util/List;I)V" = some ⟨[(.object "java/util/List"), .int], none⟩ := by decide +kernel
theorem own_pd3 : parseMethodDescriptor "()Z" = some ⟨[], some .boolean⟩ := by decide +kernel
theorem own_pd4 : parseMethodDescriptor "()I" = some ⟨[], some .int⟩ := by decide +kernel
theorem own_pd5 : parseMethodDescriptor "(I)Ljava/lang/Integer;" = some ⟨[.int], some (.object "java/lang/Integer")⟩ := by decide +kernel
theorem own_pd6 : parseMethodDescriptor "(Ljava/lang/Object;)Z" = some ⟨[(.object "java/lang/Object")], some .boolean⟩ := by decide +kernel
theorem own_pd7 : parseMethodDescriptor "(Ljava/lang/Object;[Ljava/lang/Object;I)V" = some ⟨[(.object "java/lang/Object"), (.array (.object "java/lang/Object")), .int], none⟩ := by decide +kernel
theorem own_pd8 : parseMethodDescriptor "()[Ljava/lang/Object;" = some ⟨[], some (.array (.object "java/lang/Object"))⟩ := by decide +kernel
theorem own_pd9 : parseMethodDescriptor "(I)[Ljava/lang/Object;" = some ⟨[.int], some (.array (.object "java/lang/Object"))⟩ := by decide +kernel
theorem own_pd10 : parseMethodDescriptor "(II)I" = some ⟨[.int, .int], some .int⟩ := by decide +kernel
theorem own_pd11 : parseMethodDescriptor "(I)V" = some ⟨[.int], none⟩ := by decide +kernel
theorem own_pd12 : parseMethodDescriptor "(I)Ljava/lang/Object;" = some ⟨[.int], some (.object "java/lang/Object")⟩ := by decide +kernel
theorem own_pd13 : parseMethodDescriptor "(IILjava/util/function/BiFunction;)I" = some ⟨[.int, .int, (.object "java/util/function/BiFunction")], some .int⟩ := by decide +kernel
theorem own_pn0 : plainName "java/util/AbstractCollection" = true := by first | (simp [plainName, overriddenIn]; done) | decide +kernel
theorem own_d1_0 : decode jdk_22_method_1_code 0 = .ok (.aload_n 0, 1) := by decide +kernel
theorem own_d1_1 : decode jdk_22_method_1_code 1 = .ok (.invokespecial 1, 3) := by decide +kernel
theorem own_d1_4 : decode jdk_22_method_1_code 4 = .ok (.return_, 1) := by decide +kernel
theorem own_ef1 (m : MethodId) (a1 : Addr) : entryFrame m #[(.ref a1)] 1 = mkF m 0 #[.val (.ref a1)] [] := by first | (simp [entryFrame, mkF, argsToLocals, Value.category]; done) | rfl
set_option maxRecDepth 65536 in
set_option maxHeartbeats 40000000 in
theorem own_rm1 (l : Launch) (Z : State) (a0 : Array Value) (hw : ∀ d ∈ tables_1, d.before a0 Z = true) (ws : List Jvm.Cond) (a1 : Addr) (h0 : Heap) (n0 : Nat) (Z0 : n0 ≤ h0.size)  :
    MetFree l (⟨"java/util/AbstractCollection", "<init>", "()V"⟩ : MethodName) (head1 (Jvm.Cond.code (⟨"java/util/AbstractCollection", "<init>", "()V"⟩ : MethodName) jdk_22_method_1_code 1 none :: ws) ({ frames := 1, cells := 0, slots := 0, locals := 12 } : Room)) (fun a U => a = #[(.ref a1)] ∧ Z.Warmed39 U.vm ∧ U.heap = h0) (fun _ _ _ _ _ => True) (fun _ U o U' => ∃ v L, o = .returned v ∧ own_Qp none h0 n0 v U'.heap L ∧ FrameEnd U o U' L ({ frames := 1, cells := 0, slots := 0, locals := 12 } : Room).cells ({ frames := 1, cells := 0, slots := 0, locals := 12 } : Room).slots) := by
  refine MetFree.of_bodySF (plainFor_of_name own_pn0) hisR ?_
  intro p e s m args below meth c s₁ Bd hml0 hP hK
  obtain ⟨rfl, hZ, hh⟩ := hP
  have hx := Bd.exec
  have hby := Bd.bytes
  have hml : c.maxLocals = 1 := hml0
  have hown : s.vm.findClass "java/util/AbstractCollection" = some m.cls := findClass_of_methodNamed Bd.named
  have hnm := (name_of_methodNamed Bd.named Bd.method).1
  have X0 : Stand p l e ({ frames := 1, cells := 0, slots := 0, locals := 12 } : Room) s m #[(.ref a1)] below meth c s₁ [] 0 0 := Stand.of_body Bd
  have e0 : s₁.heap = h0 := by rw [← hh, Bd.state]; rfl
  have N0 := Fr.nil n0
  refine own_in (Q := own_Qp none h0 n0) ?_
  rw [own_ef1]
  show own_G _ _ _ _ _ _ _ (s₁.setTop (mkF m 0 #[.val (.ref a1)] []))
  refine own_st (fun t k => XS.aloadN X0.here hx rfl (hb hby own_d1_0) rfl rfl k) ?_
  show own_G _ _ _ _ _ _ _ (s₁.setTop (mkF m 1 #[.val (.ref a1)] [(.ref a1)]))
  obtain ⟨T1, X1, e1, st1⟩ := initO X0 hx hZ hown (hw _ (List.mem_of_getElem? (i := 18) rfl)) (hw _ (List.mem_of_getElem? (i := 19) rfl)) (hw _ (List.mem_of_getElem? (i := 20) rfl)) e0 (g := (mkF m 1 #[.val (.ref a1)] [(.ref a1)])) rfl (by rw [hml]; rfl) rfl (hb hby own_d1_1) (by decide) (W := 0) (by show 2 * 0 + _ ≤ _; exact Nat.le_of_eq rfl) (by decide)
  refine own_st (fun t k => st1 t k) ?_
  show own_G _ _ _ _ _ _ _ (T1.setTop (mkF m 4 #[.val (.ref a1)] []))
  exact own_retV X1 hx Bd.returns (BodyLoose.notSynchronized Bd) (hb hby own_d1_4) (by decide) (by decide) ⟨rfl, N0, e1⟩
theorem own_pn1 : plainName "java/lang/Number" = true := by first | (simp [plainName, overriddenIn]; done) | decide +kernel
theorem own_d2_0 : decode jdk_18_method_1_code 0 = .ok (.aload_n 0, 1) := by decide +kernel
theorem own_d2_1 : decode jdk_18_method_1_code 1 = .ok (.invokespecial 1, 3) := by decide +kernel
theorem own_d2_4 : decode jdk_18_method_1_code 4 = .ok (.return_, 1) := by decide +kernel
theorem own_ef2 (m : MethodId) (a1 : Addr) : entryFrame m #[(.ref a1)] 1 = mkF m 0 #[.val (.ref a1)] [] := by first | (simp [entryFrame, mkF, argsToLocals, Value.category]; done) | rfl
set_option maxRecDepth 65536 in
set_option maxHeartbeats 40000000 in
theorem own_rm2 (l : Launch) (Z : State) (a0 : Array Value) (hw : ∀ d ∈ tables_1, d.before a0 Z = true) (ws : List Jvm.Cond) (a1 : Addr) (h0 : Heap) (n0 : Nat) (Z0 : n0 ≤ h0.size)  :
    MetFree l (⟨"java/lang/Number", "<init>", "()V"⟩ : MethodName) (head1 (Jvm.Cond.code (⟨"java/lang/Number", "<init>", "()V"⟩ : MethodName) jdk_18_method_1_code 1 none :: ws) ({ frames := 1, cells := 0, slots := 0, locals := 12 } : Room)) (fun a U => a = #[(.ref a1)] ∧ Z.Warmed39 U.vm ∧ U.heap = h0) (fun _ _ _ _ _ => True) (fun _ U o U' => ∃ v L, o = .returned v ∧ own_Qp none h0 n0 v U'.heap L ∧ FrameEnd U o U' L ({ frames := 1, cells := 0, slots := 0, locals := 12 } : Room).cells ({ frames := 1, cells := 0, slots := 0, locals := 12 } : Room).slots) := by
  refine MetFree.of_bodySF (plainFor_of_name own_pn1) hisR ?_
  intro p e s m args below meth c s₁ Bd hml0 hP hK
  obtain ⟨rfl, hZ, hh⟩ := hP
  have hx := Bd.exec
  have hby := Bd.bytes
  have hml : c.maxLocals = 1 := hml0
  have hown : s.vm.findClass "java/lang/Number" = some m.cls := findClass_of_methodNamed Bd.named
  have hnm := (name_of_methodNamed Bd.named Bd.method).1
  have X0 : Stand p l e ({ frames := 1, cells := 0, slots := 0, locals := 12 } : Room) s m #[(.ref a1)] below meth c s₁ [] 0 0 := Stand.of_body Bd
  have e0 : s₁.heap = h0 := by rw [← hh, Bd.state]; rfl
  have N0 := Fr.nil n0
  refine own_in (Q := own_Qp none h0 n0) ?_
  rw [own_ef2]
  show own_G _ _ _ _ _ _ _ (s₁.setTop (mkF m 0 #[.val (.ref a1)] []))
  refine own_st (fun t k => XS.aloadN X0.here hx rfl (hb hby own_d2_0) rfl rfl k) ?_
  show own_G _ _ _ _ _ _ _ (s₁.setTop (mkF m 1 #[.val (.ref a1)] [(.ref a1)]))
  obtain ⟨T2, X2, e2, st2⟩ := initO X0 hx hZ hown (hw _ (List.mem_of_getElem? (i := 106) rfl)) (hw _ (List.mem_of_getElem? (i := 19) rfl)) (hw _ (List.mem_of_getElem? (i := 20) rfl)) e0 (g := (mkF m 1 #[.val (.ref a1)] [(.ref a1)])) rfl (by rw [hml]; rfl) rfl (hb hby own_d2_1) (by decide) (W := 0) (by show 2 * 0 + _ ≤ _; exact Nat.le_of_eq rfl) (by decide)
  refine own_st (fun t k => st2 t k) ?_
  show own_G _ _ _ _ _ _ _ (T2.setTop (mkF m 4 #[.val (.ref a1)] []))
  exact own_retV X2 hx Bd.returns (BodyLoose.notSynchronized Bd) (hb hby own_d2_4) (by decide) (by decide) ⟨rfl, N0, e2⟩
theorem own_pn2 : plainName "java/lang/Record" = true := by first | (simp [plainName, overriddenIn]; done) | decide +kernel
theorem own_d3_0 : decode jdk_30_method_1_code 0 = .ok (.aload_n 0, 1) := by decide +kernel
theorem own_d3_1 : decode jdk_30_method_1_code 1 = .ok (.invokespecial 1, 3) := by decide +kernel
theorem own_d3_4 : decode jdk_30_method_1_code 4 = .ok (.return_, 1) := by decide +kernel
theorem own_ef3 (m : MethodId) (a1 : Addr) : entryFrame m #[(.ref a1)] 1 = mkF m 0 #[.val (.ref a1)] [] := by first | (simp [entryFrame, mkF, argsToLocals, Value.category]; done) | rfl
set_option maxRecDepth 65536 in
set_option maxHeartbeats 40000000 in
theorem own_rm3 (l : Launch) (Z : State) (a0 : Array Value) (hw : ∀ d ∈ tables_1, d.before a0 Z = true) (ws : List Jvm.Cond) (a1 : Addr) (h0 : Heap) (n0 : Nat) (Z0 : n0 ≤ h0.size)  :
    MetFree l (⟨"java/lang/Record", "<init>", "()V"⟩ : MethodName) (head1 (Jvm.Cond.code (⟨"java/lang/Record", "<init>", "()V"⟩ : MethodName) jdk_30_method_1_code 1 none :: ws) ({ frames := 1, cells := 0, slots := 0, locals := 12 } : Room)) (fun a U => a = #[(.ref a1)] ∧ Z.Warmed39 U.vm ∧ U.heap = h0) (fun _ _ _ _ _ => True) (fun _ U o U' => ∃ v L, o = .returned v ∧ own_Qp none h0 n0 v U'.heap L ∧ FrameEnd U o U' L ({ frames := 1, cells := 0, slots := 0, locals := 12 } : Room).cells ({ frames := 1, cells := 0, slots := 0, locals := 12 } : Room).slots) := by
  refine MetFree.of_bodySF (plainFor_of_name own_pn2) hisR ?_
  intro p e s m args below meth c s₁ Bd hml0 hP hK
  obtain ⟨rfl, hZ, hh⟩ := hP
  have hx := Bd.exec
  have hby := Bd.bytes
  have hml : c.maxLocals = 1 := hml0
  have hown : s.vm.findClass "java/lang/Record" = some m.cls := findClass_of_methodNamed Bd.named
  have hnm := (name_of_methodNamed Bd.named Bd.method).1
  have X0 : Stand p l e ({ frames := 1, cells := 0, slots := 0, locals := 12 } : Room) s m #[(.ref a1)] below meth c s₁ [] 0 0 := Stand.of_body Bd
  have e0 : s₁.heap = h0 := by rw [← hh, Bd.state]; rfl
  have N0 := Fr.nil n0
  refine own_in (Q := own_Qp none h0 n0) ?_
  rw [own_ef3]
  show own_G _ _ _ _ _ _ _ (s₁.setTop (mkF m 0 #[.val (.ref a1)] []))
  refine own_st (fun t k => XS.aloadN X0.here hx rfl (hb hby own_d3_0) rfl rfl k) ?_
  show own_G _ _ _ _ _ _ _ (s₁.setTop (mkF m 1 #[.val (.ref a1)] [(.ref a1)]))
  obtain ⟨T3, X3, e3, st3⟩ := initO X0 hx hZ hown (hw _ (List.mem_of_getElem? (i := 37) rfl)) (hw _ (List.mem_of_getElem? (i := 19) rfl)) (hw _ (List.mem_of_getElem? (i := 20) rfl)) e0 (g := (mkF m 1 #[.val (.ref a1)] [(.ref a1)])) rfl (by rw [hml]; rfl) rfl (hb hby own_d3_1) (by decide) (W := 0) (by show 2 * 0 + _ ≤ _; exact Nat.le_of_eq rfl) (by decide)
  refine own_st (fun t k => st3 t k) ?_
  show own_G _ _ _ _ _ _ _ (T3.setTop (mkF m 4 #[.val (.ref a1)] []))
  exact own_retV X3 hx Bd.returns (BodyLoose.notSynchronized Bd) (hb hby own_d3_4) (by decide) (by decide) ⟨rfl, N0, e3⟩
def own_Q4 (Z : State) (a1 : Addr) (h0 : Heap) (n0 : Nat) (v : Option Value) (h : Heap) (L : List Loc) : Prop := v = none ∧ Fr n0 L ∧ Keep h0 h [a1] ∧ Exa Z h a1 "java/util/ArrayList" ∧ Fld Z h a1 "java/util/AbstractList" "modCount" "I" (.int 0) ∧ Fld Z h a1 "java/util/ArrayList" "size" "I" (.int 0) ∧ Fld Z h a1 "java/util/ArrayList" "elementData" "[Ljava/lang/Object;" .null
theorem own_pn3 : plainName "java/util/AbstractList" = true := by first | (simp [plainName, overriddenIn]; done) | decide +kernel
theorem own_d4_0 : decode jdk_39_method_1_code 0 = .ok (.aload_n 0, 1) := by decide +kernel
theorem own_d4_1 : decode jdk_39_method_1_code 1 = .ok (.invokespecial 1, 3) := by decide +kernel
theorem own_d4_4 : decode jdk_39_method_1_code 4 = .ok (.aload_n 0, 1) := by decide +kernel
theorem own_d4_5 : decode jdk_39_method_1_code 5 = .ok (.iconst 0, 1) := by decide +kernel
theorem own_d4_6 : decode jdk_39_method_1_code 6 = .ok (.putfield 7, 3) := by decide +kernel
theorem own_d4_9 : decode jdk_39_method_1_code 9 = .ok (.return_, 1) := by decide +kernel
theorem own_ef4 (m : MethodId) (a1 : Addr) : entryFrame m #[(.ref a1)] 1 = mkF m 0 #[.val (.ref a1)] [] := by first | (simp [entryFrame, mkF, argsToLocals, Value.category]; done) | rfl
set_option maxRecDepth 65536 in
set_option maxHeartbeats 40000000 in
theorem own_rm4 (l : Launch) (Z : State) (a0 : Array Value) (hw : ∀ d ∈ tables_1, d.before a0 Z = true) (ws : List Jvm.Cond) (a1 : Addr) (h0 : Heap) (n0 : Nat) (Z0 : n0 ≤ h0.size) (E1 : Exa Z h0 a1 "java/util/ArrayList") (Fm : Fld Z h0 a1 "java/util/AbstractList" "modCount" "I" (.int 0)) (Fs : Fld Z h0 a1 "java/util/ArrayList" "size" "I" (.int 0)) (Fe : Fld Z h0 a1 "java/util/ArrayList" "elementData" "[Ljava/lang/Object;" .null) (g1 : n0 ≤ a1) :
    MetFree l (⟨"java/util/AbstractList", "<init>", "()V"⟩ : MethodName) (head1 (Jvm.Cond.code (⟨"java/util/AbstractList", "<init>", "()V"⟩ : MethodName) jdk_39_method_1_code 1 none :: ws) ({ frames := 2, cells := 0, slots := 0, locals := 24 } : Room)) (fun a U => a = #[(.ref a1)] ∧ Z.Warmed39 U.vm ∧ U.heap = h0) (fun _ _ _ _ _ => True) (fun _ U o U' => ∃ v L, o = .returned v ∧ own_Q4 Z a1 h0 n0 v U'.heap L ∧ FrameEnd U o U' L ({ frames := 2, cells := 0, slots := 0, locals := 24 } : Room).cells ({ frames := 2, cells := 0, slots := 0, locals := 24 } : Room).slots) := by
  refine MetFree.of_bodySF (plainFor_of_name own_pn3) hisR ?_
  intro p e s m args below meth c s₁ Bd hml0 hP hK
  obtain ⟨rfl, hZ, hh⟩ := hP
  have hx := Bd.exec
  have hby := Bd.bytes
  have hml : c.maxLocals = 1 := hml0
  have hown : s.vm.findClass "java/util/AbstractList" = some m.cls := findClass_of_methodNamed Bd.named
  have hnm := (name_of_methodNamed Bd.named Bd.method).1
  have X0 : Stand p l e ({ frames := 2, cells := 0, slots := 0, locals := 24 } : Room) s m #[(.ref a1)] below meth c s₁ [] 0 0 := Stand.of_body Bd
  have e0 : s₁.heap = h0 := by rw [← hh, Bd.state]; rfl
  have N0 := Fr.nil n0
  refine own_in (Q := own_Q4 Z a1 h0 n0) ?_
  rw [own_ef4]
  show own_G _ _ _ _ _ _ _ (s₁.setTop (mkF m 0 #[.val (.ref a1)] []))
  refine own_st (fun t k => XS.aloadN X0.here hx rfl (hb hby own_d4_0) rfl rfl k) ?_
  show own_G _ _ _ _ _ _ _ (s₁.setTop (mkF m 1 #[.val (.ref a1)] [(.ref a1)]))
  obtain ⟨_, _, ⟨T4, L4, k4, n4⟩, -, X4, ⟨Lc4, hQ4, l4, y4, z4⟩, st4⟩ := X0.specialBack hx (y := (⟨"java/util/AbstractCollection", "<init>", "()V"⟩ : MethodName)) rfl hown (mvT hZ (hw _ (List.mem_of_getElem? (i := 12) rfl))) (mvT hZ (hw _ (List.mem_of_getElem? (i := 13) rfl))) (mvT hZ (hw _ (List.mem_of_getElem? (i := 17) rfl))) (by decide) (backOf (W := 0) (own_rm1 l Z a0 hw [] a1 h0 n0 Z0) hZ (hw _ (List.mem_of_getElem? (i := 17) rfl)) (hw _ (List.mem_of_getElem? (i := 16) rfl)) (by decide) (by decide)) (g := (mkF m 1 #[.val (.ref a1)] [(.ref a1)])) rfl (by rw [hml]; rfl) (Steps.refl _) (a := a1) (argsL := []) (rest := []) (lenOf own_pd1 rfl) rfl (by show 2 * 0 + _ ≤ _; exact Nat.le_of_eq rfl) (hb hby own_d4_1) (fun _ _ => ⟨rfl, e0, (by decide : 0 + 0 ≤ _), (by decide : 0 + 0 ≤ _)⟩)
  dsimp only [Pt.U, Pt.locs, Pt.cells, Pt.slots] at X4 l4 y4 z4 st4 hQ4
  subst l4 y4 z4
  obtain ⟨rfl, N4q, e4⟩ := hQ4
  have N4 := Fr.app N0 N4q
  refine own_st (fun t k => st4.trans k) ?_
  show own_G _ _ _ _ _ _ _ (T4.setTop (mkF m 4 #[.val (.ref a1)] []))
  refine own_st (fun t k => XS.aloadN X4.here hx rfl (hb hby own_d4_4) rfl rfl k) ?_
  show own_G _ _ _ _ _ _ _ (T4.setTop (mkF m 5 #[.val (.ref a1)] [(.ref a1)]))
  refine own_st (fun t k => XS.iconst X4.here hx rfl (hb hby own_d4_5) k) ?_
  show own_G _ _ _ _ _ _ _ (T4.setTop (mkF m 6 #[.val (.ref a1)] [(.int (0 : Int32)), (.ref a1)]))
  obtain ⟨T5, h5, X5, e5, W5, st5⟩ := putF X4 hx hZ hown (host := "") (Or.inl (hw _ (List.mem_of_getElem? (i := 21) rfl))) Via.refl e4 Fm E1 (Or.inl (hw _ (List.mem_of_getElem? (i := 22) rfl))) (hw _ (List.mem_of_getElem? (i := 1) rfl)) (ty := .int) (by decide) rfl rfl (g := (mkF m 6 #[.val (.ref a1)] [(.int (0 : Int32)), (.ref a1)])) rfl rfl (hb hby own_d4_6)
  have N5 := Fr.snoc X5 N4 g1
  refine own_st (fun t k => st5 t k) ?_
  show own_G _ _ _ _ _ _ _ (T5.setTop (mkF m 9 #[.val (.ref a1)] []))
  have E_6 := E1.wr W5
  have fm_7 := Fm.same W5
  have fs_8 := Fs.other W5 (Or.inr (slot_ne (Or.inl (hw _ (List.mem_of_getElem? (i := 57) rfl))) (Or.inl (hw _ (List.mem_of_getElem? (i := 22) rfl))) (by decide) (t := .int) (t' := .int) (by decide) (by decide)))
  have fe_9 := Fe.other W5 (Or.inr (slot_ne (Or.inl (hw _ (List.mem_of_getElem? (i := 25) rfl))) (Or.inl (hw _ (List.mem_of_getElem? (i := 22) rfl))) (by decide) (t := (.array (.object "java/lang/Object"))) (t' := .int) (by decide) (by decide)))
  have Zz10 : n0 ≤ h5.size := Nat.le_trans Z0 (Keep.of_wr W5).1
  have Kk11 := (Keep.refl h0 [a1]).wr W5 (Or.inl (List.mem_of_getElem? (i := 0) rfl))
  subst e5
  exact own_retV X5 hx Bd.returns (BodyLoose.notSynchronized Bd) (hb hby own_d4_9) (by decide) (by decide) ⟨rfl, N5, Kk11, E_6, fm_7, fs_8, fe_9⟩
def own_Q5 (Z : State) (a1 df : Addr) (h0 : Heap) (n0 : Nat) (v : Option Value) (h : Heap) (L : List Loc) : Prop := v = none ∧ Fr n0 L ∧ Keep h0 h [a1] ∧ Exa Z h a1 "java/util/ArrayList" ∧ Fld Z h a1 "java/util/AbstractList" "modCount" "I" (.int 0) ∧ Fld Z h a1 "java/util/ArrayList" "size" "I" (.int 0) ∧ Fld Z h a1 "java/util/ArrayList" "elementData" "[Ljava/lang/Object;" (.ref df)
theorem own_pn4 : plainName "java/util/ArrayList" = true := by first | (simp [plainName, overriddenIn]; done) | decide +kernel
theorem own_d5_0 : decode jdk_38_method_2_code 0 = .ok (.aload_n 0, 1) := by decide +kernel
theorem own_d5_1 : decode jdk_38_method_2_code 1 = .ok (.invokespecial 1, 3) := by decide +kernel
theorem own_d5_4 : decode jdk_38_method_2_code 4 = .ok (.aload_n 0, 1) := by decide +kernel
theorem own_d5_5 : decode jdk_38_method_2_code 5 = .ok (.getstatic 39, 3) := by decide +kernel
theorem own_d5_8 : decode jdk_38_method_2_code 8 = .ok (.putfield 9, 3) := by decide +kernel
theorem own_d5_11 : decode jdk_38_method_2_code 11 = .ok (.return_, 1) := by decide +kernel
theorem own_ef5 (m : MethodId) (a1 : Addr) : entryFrame m #[(.ref a1)] 1 = mkF m 0 #[.val (.ref a1)] [] := by first | (simp [entryFrame, mkF, argsToLocals, Value.category]; done) | rfl
set_option maxRecDepth 65536 in
set_option maxHeartbeats 40000000 in
theorem own_rm5 (l : Launch) (Z : State) (a0 : Array Value) (hw : ∀ d ∈ tables_1, d.before a0 Z = true) (ws : List Jvm.Cond) (a1 df : Addr) (h0 : Heap) (n0 : Nat) (Z0 : n0 ≤ h0.size) (E1 : Exa Z h0 a1 "java/util/ArrayList") (Fm : Fld Z h0 a1 "java/util/AbstractList" "modCount" "I" (.int 0)) (Fs : Fld Z h0 a1 "java/util/ArrayList" "size" "I" (.int 0)) (Fe : Fld Z h0 a1 "java/util/ArrayList" "elementData" "[Ljava/lang/Object;" .null) (g1 : n0 ≤ a1) (O0 : Old Z n0 h0) (Sd : Sta Z Z.heap "java/util/ArrayList" "DEFAULTCAPACITY_EMPTY_ELEMENTDATA" "[Ljava/lang/Object;" (.ref df)) :
    MetFree l (⟨"java/util/ArrayList", "<init>", "()V"⟩ : MethodName) (head1 (Jvm.Cond.code (⟨"java/util/ArrayList", "<init>", "()V"⟩ : MethodName) jdk_38_method_2_code 1 none :: ws) ({ frames := 3, cells := 0, slots := 0, locals := 36 } : Room)) (fun a U => a = #[(.ref a1)] ∧ Z.Warmed39 U.vm ∧ U.heap = h0) (fun _ _ _ _ _ => True) (fun _ U o U' => ∃ v L, o = .returned v ∧ own_Q5 Z a1 df h0 n0 v U'.heap L ∧ FrameEnd U o U' L ({ frames := 3, cells := 0, slots := 0, locals := 36 } : Room).cells ({ frames := 3, cells := 0, slots := 0, locals := 36 } : Room).slots) := by
  refine MetFree.of_bodySF (plainFor_of_name own_pn4) hisR ?_
  intro p e s m args below meth c s₁ Bd hml0 hP hK
  obtain ⟨rfl, hZ, hh⟩ := hP
  have hx := Bd.exec
  have hby := Bd.bytes
  have hml : c.maxLocals = 1 := hml0
  have hown : s.vm.findClass "java/util/ArrayList" = some m.cls := findClass_of_methodNamed Bd.named
  have hnm := (name_of_methodNamed Bd.named Bd.method).1
  have X0 : Stand p l e ({ frames := 3, cells := 0, slots := 0, locals := 36 } : Room) s m #[(.ref a1)] below meth c s₁ [] 0 0 := Stand.of_body Bd
  have e0 : s₁.heap = h0 := by rw [← hh, Bd.state]; rfl
  have N0 := Fr.nil n0
  refine own_in (Q := own_Q5 Z a1 df h0 n0) ?_
  rw [own_ef5]
  show own_G _ _ _ _ _ _ _ (s₁.setTop (mkF m 0 #[.val (.ref a1)] []))
  refine own_st (fun t k => XS.aloadN X0.here hx rfl (hb hby own_d5_0) rfl rfl k) ?_
  show own_G _ _ _ _ _ _ _ (s₁.setTop (mkF m 1 #[.val (.ref a1)] [(.ref a1)]))
  obtain ⟨_, _, ⟨T12, L12, k12, n12⟩, -, X12, ⟨Lc12, hQ12, l12, y12, z12⟩, st12⟩ := X0.specialBack hx (y := (⟨"java/util/AbstractList", "<init>", "()V"⟩ : MethodName)) rfl hown (mvT hZ (hw _ (List.mem_of_getElem? (i := 6) rfl))) (mvT hZ (hw _ (List.mem_of_getElem? (i := 7) rfl))) (mvT hZ (hw _ (List.mem_of_getElem? (i := 11) rfl))) (by decide) (backOf (W := 0) (own_rm4 l Z a0 hw [] a1 h0 n0 Z0 E1 Fm Fs Fe g1) hZ (hw _ (List.mem_of_getElem? (i := 11) rfl)) (hw _ (List.mem_of_getElem? (i := 10) rfl)) (by decide) (by decide)) (g := (mkF m 1 #[.val (.ref a1)] [(.ref a1)])) rfl (by rw [hml]; rfl) (Steps.refl _) (a := a1) (argsL := []) (rest := []) (lenOf own_pd1 rfl) rfl (by show 2 * 0 + _ ≤ _; exact Nat.le_of_eq rfl) (hb hby own_d5_1) (fun _ _ => ⟨rfl, e0, (by decide : 0 + 0 ≤ _), (by decide : 0 + 0 ≤ _)⟩)
  dsimp only [Pt.U, Pt.locs, Pt.cells, Pt.slots] at X12 l12 y12 z12 st12 hQ12
  subst l12 y12 z12
  obtain ⟨rfl, N12q, K12, Ea12, Fa12, Fb12, Fc12⟩ := hQ12
  have N12 := Fr.app N0 N12q
  refine own_st (fun t k => st12.trans k) ?_
  show own_G _ _ _ _ _ _ _ (T12.setTop (mkF m 4 #[.val (.ref a1)] []))
  have O_13 := O0.keep K12 (allS g1 all0)
  have Zz14 : n0 ≤ _ := Nat.le_trans Z0 K12.1
  have Kk15 := (Keep.refl h0 [a1]).trans K12 (allS (Or.inl (List.mem_of_getElem? (i := 0) rfl)) all0)
  refine own_st (fun t k => XS.aloadN X12.here hx rfl (hb hby own_d5_4) rfl rfl k) ?_
  show own_G _ _ _ _ _ _ _ (T12.setTop (mkF m 5 #[.val (.ref a1)] [(.ref a1)]))
  obtain ⟨T16, X16, e16, st16⟩ := getS2 X12 hx hZ hown (host := "") (Or.inl (hw _ (List.mem_of_getElem? (i := 23) rfl))) Via.refl rfl (Sd.ext O_13.2) (g := (mkF m 5 #[.val (.ref a1)] [(.ref a1)])) rfl (hb hby own_d5_5)
  refine own_st (fun t k => st16 t k) ?_
  show own_G _ _ _ _ _ _ _ (T16.setTop (mkF m 8 #[.val (.ref a1)] [(.ref df), (.ref a1)]))
  obtain ⟨T17, h17, X17, e17, W17, st17⟩ := putF X16 hx hZ hown (host := "") (Or.inl (hw _ (List.mem_of_getElem? (i := 24) rfl))) Via.refl e16 Fc12 Ea12 (Or.inl (hw _ (List.mem_of_getElem? (i := 25) rfl))) (hw _ (List.mem_of_getElem? (i := 1) rfl)) (ty := (.array (.object "java/lang/Object"))) (by decide) rfl rfl (g := (mkF m 8 #[.val (.ref a1)] [(.ref df), (.ref a1)])) rfl rfl (hb hby own_d5_8)
  have N17 := Fr.snoc X17 N12 g1
  refine own_st (fun t k => st17 t k) ?_
  show own_G _ _ _ _ _ _ _ (T17.setTop (mkF m 11 #[.val (.ref a1)] []))
  have O_18 := O_13.wr W17 g1
  have E_19 := Ea12.wr W17
  have fm_20 := Fa12.other W17 (Or.inr (slot_ne (Or.inl (hw _ (List.mem_of_getElem? (i := 22) rfl))) (Or.inl (hw _ (List.mem_of_getElem? (i := 25) rfl))) (by decide) (t := .int) (t' := (.array (.object "java/lang/Object"))) (by decide) (by decide)))
  have fs_21 := Fb12.other W17 (Or.inr (slot_ne (Or.inl (hw _ (List.mem_of_getElem? (i := 57) rfl))) (Or.inl (hw _ (List.mem_of_getElem? (i := 25) rfl))) (by decide) (t := .int) (t' := (.array (.object "java/lang/Object"))) (by decide) (by decide)))
  have fe_22 := Fc12.same W17
  have Zz23 : n0 ≤ h17.size := Nat.le_trans Zz14 (Keep.of_wr W17).1
  have Kk24 := Kk15.wr W17 (Or.inl (List.mem_of_getElem? (i := 0) rfl))
  subst e17
  exact own_retV X17 hx Bd.returns (BodyLoose.notSynchronized Bd) (hb hby own_d5_11) (by decide) (by decide) ⟨rfl, N17, Kk24, E_19, fm_20, fs_21, fe_22⟩
def own_Q6 (Z : State) (a1 : Addr) (p1 : Int32) (h0 : Heap) (n0 : Nat) (v : Option Value) (h : Heap) (L : List Loc) : Prop := v = none ∧ Fr n0 L ∧ Keep h0 h [a1] ∧ Exa Z h a1 "java/lang/Integer" ∧ Fld Z h a1 "java/lang/Integer" "value" "I" (.int p1)
theorem own_pn5 : plainName "java/lang/Integer" = true := by first | (simp [plainName, overriddenIn]; done) | decide +kernel
theorem own_d6_0 : decode jdk_33_method_23_code 0 = .ok (.aload_n 0, 1) := by decide +kernel
theorem own_d6_1 : decode jdk_33_method_23_code 1 = .ok (.invokespecial 202, 3) := by decide +kernel
theorem own_d6_4 : decode jdk_33_method_23_code 4 = .ok (.aload_n 0, 1) := by decide +kernel
theorem own_d6_5 : decode jdk_33_method_23_code 5 = .ok (.iload_n 1, 1) := by decide +kernel
theorem own_d6_6 : decode jdk_33_method_23_code 6 = .ok (.putfield 205, 3) := by decide +kernel
theorem own_d6_9 : decode jdk_33_method_23_code 9 = .ok (.return_, 1) := by decide +kernel
theorem own_ef6 (m : MethodId) (a1 : Addr) (p1 : Int32) : entryFrame m #[(.ref a1), (.int p1)] 2 = mkF m 0 #[.val (.ref a1), .val (.int p1)] [] := by first | (simp [entryFrame, mkF, argsToLocals, Value.category]; done) | rfl
set_option maxRecDepth 65536 in
set_option maxHeartbeats 40000000 in
theorem own_rm6 (l : Launch) (Z : State) (a0 : Array Value) (hw : ∀ d ∈ tables_1, d.before a0 Z = true) (ws : List Jvm.Cond) (a1 : Addr) (p1 : Int32) (h0 : Heap) (n0 : Nat) (Z0 : n0 ≤ h0.size) (E1 : Exa Z h0 a1 "java/lang/Integer") (F1 : Fld Z h0 a1 "java/lang/Integer" "value" "I" (.int 0)) (g1 : n0 ≤ a1) :
    MetFree l (⟨"java/lang/Integer", "<init>", "(I)V"⟩ : MethodName) (head1 (Jvm.Cond.code (⟨"java/lang/Integer", "<init>", "(I)V"⟩ : MethodName) jdk_33_method_23_code 2 none :: ws) ({ frames := 2, cells := 0, slots := 0, locals := 24 } : Room)) (fun a U => a = #[(.ref a1), (.int p1)] ∧ Z.Warmed39 U.vm ∧ U.heap = h0) (fun _ _ _ _ _ => True) (fun _ U o U' => ∃ v L, o = .returned v ∧ own_Q6 Z a1 p1 h0 n0 v U'.heap L ∧ FrameEnd U o U' L ({ frames := 2, cells := 0, slots := 0, locals := 24 } : Room).cells ({ frames := 2, cells := 0, slots := 0, locals := 24 } : Room).slots) := by
  refine MetFree.of_bodySF (plainFor_of_name own_pn5) hisR ?_
  intro p e s m args below meth c s₁ Bd hml0 hP hK
  obtain ⟨rfl, hZ, hh⟩ := hP
  have hx := Bd.exec
  have hby := Bd.bytes
  have hml : c.maxLocals = 2 := hml0
  have hown : s.vm.findClass "java/lang/Integer" = some m.cls := findClass_of_methodNamed Bd.named
  have hnm := (name_of_methodNamed Bd.named Bd.method).1
  have X0 : Stand p l e ({ frames := 2, cells := 0, slots := 0, locals := 24 } : Room) s m #[(.ref a1), (.int p1)] below meth c s₁ [] 0 0 := Stand.of_body Bd
  have e0 : s₁.heap = h0 := by rw [← hh, Bd.state]; rfl
  have N0 := Fr.nil n0
  refine own_in (Q := own_Q6 Z a1 p1 h0 n0) ?_
  rw [own_ef6]
  show own_G _ _ _ _ _ _ _ (s₁.setTop (mkF m 0 #[.val (.ref a1), .val (.int p1)] []))
  refine own_st (fun t k => XS.aloadN X0.here hx rfl (hb hby own_d6_0) rfl rfl k) ?_
  show own_G _ _ _ _ _ _ _ (s₁.setTop (mkF m 1 #[.val (.ref a1), .val (.int p1)] [(.ref a1)]))
  obtain ⟨_, _, ⟨T25, L25, k25, n25⟩, -, X25, ⟨Lc25, hQ25, l25, y25, z25⟩, st25⟩ := X0.specialBack hx (y := (⟨"java/lang/Number", "<init>", "()V"⟩ : MethodName)) rfl hown (mvT hZ (hw _ (List.mem_of_getElem? (i := 100) rfl))) (mvT hZ (hw _ (List.mem_of_getElem? (i := 101) rfl))) (mvT hZ (hw _ (List.mem_of_getElem? (i := 105) rfl))) (by decide) (backOf (W := 0) (own_rm2 l Z a0 hw [] a1 h0 n0 Z0) hZ (hw _ (List.mem_of_getElem? (i := 105) rfl)) (hw _ (List.mem_of_getElem? (i := 104) rfl)) (by decide) (by decide)) (g := (mkF m 1 #[.val (.ref a1), .val (.int p1)] [(.ref a1)])) rfl (by rw [hml]; rfl) (Steps.refl _) (a := a1) (argsL := []) (rest := []) (lenOf own_pd1 rfl) rfl (by show 2 * 0 + _ ≤ _; exact Nat.le_of_eq rfl) (hb hby own_d6_1) (fun _ _ => ⟨rfl, e0, (by decide : 0 + 0 ≤ _), (by decide : 0 + 0 ≤ _)⟩)
  dsimp only [Pt.U, Pt.locs, Pt.cells, Pt.slots] at X25 l25 y25 z25 st25 hQ25
  subst l25 y25 z25
  obtain ⟨rfl, N25q, e25⟩ := hQ25
  have N25 := Fr.app N0 N25q
  refine own_st (fun t k => st25.trans k) ?_
  show own_G _ _ _ _ _ _ _ (T25.setTop (mkF m 4 #[.val (.ref a1), .val (.int p1)] []))
  refine own_st (fun t k => XS.aloadN X25.here hx rfl (hb hby own_d6_4) rfl rfl k) ?_
  show own_G _ _ _ _ _ _ _ (T25.setTop (mkF m 5 #[.val (.ref a1), .val (.int p1)] [(.ref a1)]))
  refine own_st (fun t k => XS.iloadN X25.here hx rfl (hb hby own_d6_5) rfl k) ?_
  show own_G _ _ _ _ _ _ _ (T25.setTop (mkF m 6 #[.val (.ref a1), .val (.int p1)] [(.int p1), (.ref a1)]))
  obtain ⟨T26, h26, X26, e26, W26, st26⟩ := putF X25 hx hZ hown (host := "") (Or.inl (hw _ (List.mem_of_getElem? (i := 107) rfl))) Via.refl e25 F1 E1 (Or.inr ⟨(hw _ (List.mem_of_getElem? (i := 108) rfl)), rfl, hnm⟩) (hw _ (List.mem_of_getElem? (i := 95) rfl)) (ty := .int) (by decide) rfl rfl (g := (mkF m 6 #[.val (.ref a1), .val (.int p1)] [(.int p1), (.ref a1)])) rfl rfl (hb hby own_d6_6)
  have N26 := Fr.snoc X26 N25 g1
  refine own_st (fun t k => st26 t k) ?_
  show own_G _ _ _ _ _ _ _ (T26.setTop (mkF m 9 #[.val (.ref a1), .val (.int p1)] []))
  have E_27 := E1.wr W26
  have f_28 := F1.same W26
  have Zz29 : n0 ≤ h26.size := Nat.le_trans Z0 (Keep.of_wr W26).1
  have Kk30 := (Keep.refl h0 [a1]).wr W26 (Or.inl (List.mem_of_getElem? (i := 0) rfl))
  subst e26
  exact own_retV X26 hx Bd.returns (BodyLoose.notSynchronized Bd) (hb hby own_d6_9) (by decide) (by decide) ⟨rfl, N26, Kk30, E_27, f_28⟩
theorem own_cache {p : Int32} (h1 : ¬ p < -128) (h2 : ¬ 127 < p) : (¬ p + 128 < 0 ∧ p + 128 < 256) ∧ (p + 128) - 128 = p := by
  have e1 : (-128 : Int32).toInt = -128 := by decide
  have e2 : (127 : Int32).toInt = 127 := by decide
  have e3 : (128 : Int32).toInt = 128 := by decide
  have e4 : (256 : Int32).toInt = 256 := by decide
  have e0 : (0 : Int32).toInt = 0 := by decide
  rw [Int32.lt_iff_toInt_lt, e1] at h1
  rw [Int32.lt_iff_toInt_lt, e2] at h2
  have a : (p + 128).toInt = p.toInt + 128 := by rw [Jvm.Kit.i32_add, e3] <;> rw [e3] <;> omega
  have b : ((p + 128) - 128).toInt = p.toInt := by rw [Jvm.Kit.i32_sub, a, e3] <;> (try rw [a, e3]) <;> omega
  refine ⟨⟨?_, ?_⟩, Int32.toInt_inj.mp b⟩
  · rw [Int32.lt_iff_toInt_lt, a, e0]; omega
  · rw [Int32.lt_iff_toInt_lt, a, e4]; omega
def own_Q7 (Z : State) (p1 : Int32) (h0 : Heap) (n0 : Nat) (v : Option Value) (h : Heap) (L : List Loc) : Prop := ∃ b : Addr, v = some (.ref b) ∧ Fr n0 L ∧ Keep h0 h [] ∧ Exa Z h b "java/lang/Integer" ∧ Fld Z h b "java/lang/Integer" "value" "I" (.int p1)
theorem own_d7_0 : decode jdk_33_method_22_code 0 = .ok (.iload_n 0, 1) := by decide +kernel
theorem own_d7_1 : decode jdk_33_method_22_code 1 = .ok (.bipush (-128), 2) := by decide +kernel
theorem own_d7_3 : decode jdk_33_method_22_code 3 = .ok (.if_icmp .lt 20, 3) := by decide +kernel
theorem own_d7_6 : decode jdk_33_method_22_code 6 = .ok (.iload_n 0, 1) := by decide +kernel
theorem own_d7_7 : decode jdk_33_method_22_code 7 = .ok (.getstatic 191, 3) := by decide +kernel
theorem own_d7_10 : decode jdk_33_method_22_code 10 = .ok (.if_icmp .gt 13, 3) := by decide +kernel
theorem own_d7_13 : decode jdk_33_method_22_code 13 = .ok (.getstatic 195, 3) := by decide +kernel
theorem own_d7_16 : decode jdk_33_method_22_code 16 = .ok (.iload_n 0, 1) := by decide +kernel
theorem own_d7_17 : decode jdk_33_method_22_code 17 = .ok (.sipush 128, 3) := by decide +kernel
theorem own_d7_20 : decode jdk_33_method_22_code 20 = .ok (.iadd, 1) := by decide +kernel
theorem own_d7_21 : decode jdk_33_method_22_code 21 = .ok (.aaload, 1) := by decide +kernel
theorem own_d7_22 : decode jdk_33_method_22_code 22 = .ok (.areturn, 1) := by decide +kernel
theorem own_d7_23 : decode jdk_33_method_22_code 23 = .ok (.new 1, 3) := by decide +kernel
theorem own_d7_26 : decode jdk_33_method_22_code 26 = .ok (.dup, 1) := by decide +kernel
theorem own_d7_27 : decode jdk_33_method_22_code 27 = .ok (.iload_n 0, 1) := by decide +kernel
theorem own_d7_28 : decode jdk_33_method_22_code 28 = .ok (.invokespecial 199, 3) := by decide +kernel
theorem own_d7_31 : decode jdk_33_method_22_code 31 = .ok (.areturn, 1) := by decide +kernel
theorem own_ef7 (m : MethodId) (p1 : Int32) : entryFrame m #[(.int p1)] 1 = mkF m 0 #[.val (.int p1)] [] := by first | (simp [entryFrame, mkF, argsToLocals, Value.category]; done) | rfl
set_option maxRecDepth 65536 in
set_option maxHeartbeats 40000000 in
theorem own_rm7 (l : Launch) (Z : State) (a0 : Array Value) (hw : ∀ d ∈ tables_1, d.before a0 Z = true) (ws : List Jvm.Cond) (p1 : Int32) (ca : Addr) (cc : Cell) (h0 : Heap) (n0 : Nat) (Z0 : n0 ≤ h0.size) (O0 : Old Z n0 h0) (Sh : Sta Z Z.heap "java/lang/Integer$IntegerCache" "high" "I" (.int 127)) (Sc : Sta Z Z.heap "java/lang/Integer$IntegerCache" "cache" "[Ljava/lang/Integer;" (.ref ca)) (Bx : Bxs Z ca cc "java/lang/Integer" "I" 256 (fun j => .int (j - 128))) :
    MetFree l (⟨"java/lang/Integer", "valueOf", "(I)Ljava/lang/Integer;"⟩ : MethodName) (head1 (Jvm.Cond.code (⟨"java/lang/Integer", "valueOf", "(I)Ljava/lang/Integer;"⟩ : MethodName) jdk_33_method_22_code 1 (some (.object "java/lang/Integer")) :: ws) ({ frames := 3, cells := 1, slots := 1, locals := 38 } : Room)) (fun a U => a = #[(.int p1)] ∧ Z.Warmed39 U.vm ∧ U.heap = h0) (fun _ _ _ _ _ => True) (fun _ U o U' => ∃ v L, o = .returned v ∧ own_Q7 Z p1 h0 n0 v U'.heap L ∧ FrameEnd U o U' L ({ frames := 3, cells := 1, slots := 1, locals := 38 } : Room).cells ({ frames := 3, cells := 1, slots := 1, locals := 38 } : Room).slots) := by
  refine MetFree.of_bodySF (plainFor_of_name own_pn5) hisR ?_
  intro p e s m args below meth c s₁ Bd hml0 hP hK
  obtain ⟨rfl, hZ, hh⟩ := hP
  have hx := Bd.exec
  have hby := Bd.bytes
  have hml : c.maxLocals = 1 := hml0
  have hown : s.vm.findClass "java/lang/Integer" = some m.cls := findClass_of_methodNamed Bd.named
  have hnm := (name_of_methodNamed Bd.named Bd.method).1
  have X0 : Stand p l e ({ frames := 3, cells := 1, slots := 1, locals := 38 } : Room) s m #[(.int p1)] below meth c s₁ [] 0 0 := Stand.of_body Bd
  have e0 : s₁.heap = h0 := by rw [← hh, Bd.state]; rfl
  have N0 := Fr.nil n0
  refine own_in (Q := own_Q7 Z p1 h0 n0) ?_
  rw [own_ef7]
  show own_G _ _ _ _ _ _ _ (s₁.setTop (mkF m 0 #[.val (.int p1)] []))
  refine own_st (fun t k => XS.iloadN X0.here hx rfl (hb hby own_d7_0) rfl k) ?_
  show own_G _ _ _ _ _ _ _ (s₁.setTop (mkF m 1 #[.val (.int p1)] [(.int p1)]))
  refine own_st (fun t k => XS.bipush X0.here hx rfl (hb hby own_d7_1) k) ?_
  show own_G _ _ _ _ _ _ _ (s₁.setTop (mkF m 3 #[.val (.int p1)] [(.int (-128 : Int32)), (.int p1)]))
  by_cases h1 : p1 < (-128 : Int32)
  · refine own_st (fun t k => XS.icmpYes X0.here hx rfl (pc0 := 3) (pc' := 23) rfl (hb hby own_d7_3) rfl (tlt h1).1 (by decide) (by decide) k) ?_
    show own_G _ _ _ _ _ _ _ (s₁.setTop (mkF m 23 #[.val (.int p1)] []))
    obtain ⟨T31, h31, X31, e31, E31, A31, D31, -, st31⟩ := newO X0 hx hZ hown (hw _ (List.mem_of_getElem? (i := 94) rfl)) (hw _ (List.mem_of_getElem? (i := 95) rfl)) (hw _ (List.mem_of_getElem? (i := 60) rfl)) e0 (g := (mkF m 23 #[.val (.int p1)] [])) rfl (hb hby own_d7_23) (by decide) (by decide)
    obtain ⟨b1, g31⟩ : ∃ z, z = h0.size := ⟨_, rfl⟩
    rw [← g31] at A31 D31 st31
    refine own_st (fun t k => st31 t k) ?_
    show own_G _ _ _ _ _ _ _ (T31.setTop (mkF m 26 #[.val (.int p1)] [(.ref b1)]))
    have ge_b1 : n0 ≤ b1 := Nat.le_trans Z0 (Nat.le_of_eq g31.symm)
    have sz_b1 : h0.size ≤ b1 := Nat.le_trans (Keep.refl h0 []).1 (Nat.le_of_eq g31.symm)
    have Zz32 : n0 ≤ h31.size := Nat.le_trans Z0 E31.1
    have Kk33 := (Keep.refl h0 []).ext E31
    have F1 : Fld Z h31 b1 "java/lang/Integer" "value" "I" (.int 0) := D31 (Or.inr (hw _ (List.mem_of_getElem? (i := 108) rfl))) (ty := .int) (by decide)
    refine own_st (fun t k => XS.dup X31.here hx rfl (hb hby own_d7_26) rfl rfl k) ?_
    show own_G _ _ _ _ _ _ _ (T31.setTop (mkF m 27 #[.val (.int p1)] [(.ref b1), (.ref b1)]))
    refine own_st (fun t k => XS.iloadN X31.here hx rfl (hb hby own_d7_27) rfl k) ?_
    show own_G _ _ _ _ _ _ _ (T31.setTop (mkF m 28 #[.val (.int p1)] [(.int p1), (.ref b1), (.ref b1)]))
    obtain ⟨_, _, ⟨T34, L34, k34, n34⟩, -, X34, ⟨Lc34, hQ34, l34, y34, z34⟩, st34⟩ := X31.specialBack hx (y := (⟨"java/lang/Integer", "<init>", "(I)V"⟩ : MethodName)) rfl hown (mvT hZ (hw _ (List.mem_of_getElem? (i := 96) rfl))) (mvT hZ (hw _ (List.mem_of_getElem? (i := 97) rfl))) (mvT hZ (hw _ (List.mem_of_getElem? (i := 99) rfl))) (by decide) (backOf (W := 1) (own_rm6 l Z a0 hw [] b1 p1 h31 n0 Zz32 A31 F1 ge_b1) hZ (hw _ (List.mem_of_getElem? (i := 99) rfl)) (hw _ (List.mem_of_getElem? (i := 60) rfl)) (by decide) (by decide)) (g := (mkF m 28 #[.val (.int p1)] [(.int p1), (.ref b1), (.ref b1)])) rfl (by rw [hml]; rfl) (Steps.refl _) (a := b1) (argsL := [(.int p1)]) (rest := [(.ref b1)]) (lenOf own_pd11 rfl) rfl (by show 2 * 0 + _ ≤ _; exact Nat.le_of_eq rfl) (hb hby own_d7_28) (fun _ _ => ⟨rfl, e31, (by decide : 1 + 0 ≤ _), (by decide : 1 + 0 ≤ _)⟩)
    dsimp only [Pt.U, Pt.locs, Pt.cells, Pt.slots] at X34 l34 y34 z34 st34 hQ34
    subst l34 y34 z34
    obtain ⟨rfl, N34q, K34, Ex34, Fx34⟩ := hQ34
    have N34 := Fr.app N0 N34q
    refine own_st (fun t k => st34.trans k) ?_
    show own_G _ _ _ _ _ _ _ (T34.setTop (mkF m 31 #[.val (.int p1)] [(.ref b1)]))
    have Zz35 : n0 ≤ _ := Nat.le_trans Zz32 K34.1
    have Kk36 := Kk33.trans K34 (allS (Or.inr sz_b1) all0)
    exact own_retA (ft := (.object "java/lang/Integer")) (w := (.ref b1)) rfl rfl X34 hx Bd.returns (BodyLoose.notSynchronized Bd) (hb hby own_d7_31) (by decide) (by decide) ⟨b1, rfl, N34, Kk36, Ex34, Fx34⟩
  · refine own_st (fun t k => XS.icmpNo X0.here hx rfl (hb hby own_d7_3) rfl (flt h1).1 k) ?_
    show own_G _ _ _ _ _ _ _ (s₁.setTop (mkF m 6 #[.val (.int p1)] []))
    refine own_st (fun t k => XS.iloadN X0.here hx rfl (hb hby own_d7_6) rfl k) ?_
    show own_G _ _ _ _ _ _ _ (s₁.setTop (mkF m 7 #[.val (.int p1)] [(.int p1)]))
    obtain ⟨T37, X37, e37, st37⟩ := getS2 X0 hx hZ hown (host := "") (Or.inl (hw _ (List.mem_of_getElem? (i := 62) rfl))) Via.refl e0 (Sh.ext O0.2) (g := (mkF m 7 #[.val (.int p1)] [(.int p1)])) rfl (hb hby own_d7_7)
    refine own_st (fun t k => st37 t k) ?_
    show own_G _ _ _ _ _ _ _ (T37.setTop (mkF m 10 #[.val (.int p1)] [(.int (127 : Int32)), (.int p1)]))
    by_cases h2 : (127 : Int32) < p1
    · refine own_st (fun t k => XS.icmpYes X37.here hx rfl (pc0 := 10) (pc' := 23) rfl (hb hby own_d7_10) rfl (tlt h2).2.2.1 (by decide) (by decide) k) ?_
      show own_G _ _ _ _ _ _ _ (T37.setTop (mkF m 23 #[.val (.int p1)] []))
      obtain ⟨T38, h38, X38, e38, E38, A38, D38, -, st38⟩ := newO X37 hx hZ hown (hw _ (List.mem_of_getElem? (i := 94) rfl)) (hw _ (List.mem_of_getElem? (i := 95) rfl)) (hw _ (List.mem_of_getElem? (i := 60) rfl)) e37 (g := (mkF m 23 #[.val (.int p1)] [])) rfl (hb hby own_d7_23) (by decide) (by decide)
      obtain ⟨b1, g38⟩ : ∃ z, z = h0.size := ⟨_, rfl⟩
      rw [← g38] at A38 D38 st38
      refine own_st (fun t k => st38 t k) ?_
      show own_G _ _ _ _ _ _ _ (T38.setTop (mkF m 26 #[.val (.int p1)] [(.ref b1)]))
      have ge_b1 : n0 ≤ b1 := Nat.le_trans Z0 (Nat.le_of_eq g38.symm)
      have sz_b1 : h0.size ≤ b1 := Nat.le_trans (Keep.refl h0 []).1 (Nat.le_of_eq g38.symm)
      have Zz39 : n0 ≤ h38.size := Nat.le_trans Z0 E38.1
      have Kk40 := (Keep.refl h0 []).ext E38
      have F1 : Fld Z h38 b1 "java/lang/Integer" "value" "I" (.int 0) := D38 (Or.inr (hw _ (List.mem_of_getElem? (i := 108) rfl))) (ty := .int) (by decide)
      refine own_st (fun t k => XS.dup X38.here hx rfl (hb hby own_d7_26) rfl rfl k) ?_
      show own_G _ _ _ _ _ _ _ (T38.setTop (mkF m 27 #[.val (.int p1)] [(.ref b1), (.ref b1)]))
      refine own_st (fun t k => XS.iloadN X38.here hx rfl (hb hby own_d7_27) rfl k) ?_
      show own_G _ _ _ _ _ _ _ (T38.setTop (mkF m 28 #[.val (.int p1)] [(.int p1), (.ref b1), (.ref b1)]))
      obtain ⟨_, _, ⟨T41, L41, k41, n41⟩, -, X41, ⟨Lc41, hQ41, l41, y41, z41⟩, st41⟩ := X38.specialBack hx (y := (⟨"java/lang/Integer", "<init>", "(I)V"⟩ : MethodName)) rfl hown (mvT hZ (hw _ (List.mem_of_getElem? (i := 96) rfl))) (mvT hZ (hw _ (List.mem_of_getElem? (i := 97) rfl))) (mvT hZ (hw _ (List.mem_of_getElem? (i := 99) rfl))) (by decide) (backOf (W := 1) (own_rm6 l Z a0 hw [] b1 p1 h38 n0 Zz39 A38 F1 ge_b1) hZ (hw _ (List.mem_of_getElem? (i := 99) rfl)) (hw _ (List.mem_of_getElem? (i := 60) rfl)) (by decide) (by decide)) (g := (mkF m 28 #[.val (.int p1)] [(.int p1), (.ref b1), (.ref b1)])) rfl (by rw [hml]; rfl) (Steps.refl _) (a := b1) (argsL := [(.int p1)]) (rest := [(.ref b1)]) (lenOf own_pd11 rfl) rfl (by show 2 * 0 + _ ≤ _; exact Nat.le_of_eq rfl) (hb hby own_d7_28) (fun _ _ => ⟨rfl, e38, (by decide : 1 + 0 ≤ _), (by decide : 1 + 0 ≤ _)⟩)
      dsimp only [Pt.U, Pt.locs, Pt.cells, Pt.slots] at X41 l41 y41 z41 st41 hQ41
      subst l41 y41 z41
      obtain ⟨rfl, N41q, K41, Ex41, Fx41⟩ := hQ41
      have N41 := Fr.app N0 N41q
      refine own_st (fun t k => st41.trans k) ?_
      show own_G _ _ _ _ _ _ _ (T41.setTop (mkF m 31 #[.val (.int p1)] [(.ref b1)]))
      have Zz42 : n0 ≤ _ := Nat.le_trans Zz39 K41.1
      have Kk43 := Kk40.trans K41 (allS (Or.inr sz_b1) all0)
      exact own_retA (ft := (.object "java/lang/Integer")) (w := (.ref b1)) rfl rfl X41 hx Bd.returns (BodyLoose.notSynchronized Bd) (hb hby own_d7_31) (by decide) (by decide) ⟨b1, rfl, N41, Kk43, Ex41, Fx41⟩
    · refine own_st (fun t k => XS.icmpNo X37.here hx rfl (hb hby own_d7_10) rfl (flt h2).2.2.1 k) ?_
      show own_G _ _ _ _ _ _ _ (T37.setTop (mkF m 13 #[.val (.int p1)] []))
      obtain ⟨T44, X44, e44, st44⟩ := getS2 X37 hx hZ hown (host := "") (Or.inl (hw _ (List.mem_of_getElem? (i := 64) rfl))) Via.refl e37 (Sc.ext O0.2) (g := (mkF m 13 #[.val (.int p1)] [])) rfl (hb hby own_d7_13)
      refine own_st (fun t k => st44 t k) ?_
      show own_G _ _ _ _ _ _ _ (T44.setTop (mkF m 16 #[.val (.int p1)] [(.ref ca)]))
      refine own_st (fun t k => XS.iloadN X44.here hx rfl (hb hby own_d7_16) rfl k) ?_
      show own_G _ _ _ _ _ _ _ (T44.setTop (mkF m 17 #[.val (.int p1)] [(.int p1), (.ref ca)]))
      refine own_st (fun t k => XS.sipush X44.here hx rfl (hb hby own_d7_17) k) ?_
      show own_G _ _ _ _ _ _ _ (T44.setTop (mkF m 20 #[.val (.int p1)] [(.int (128 : Int32)), (.int p1), (.ref ca)]))
      refine own_st (fun t k => XS.iadd X44.here hx rfl (hb hby own_d7_20) rfl k) ?_
      show own_G _ _ _ _ _ _ _ (T44.setTop (mkF m 21 #[.val (.int p1)] [(.int (p1 + (128 : Int32))), (.ref ca)]))
      obtain ⟨hr, he⟩ := own_cache h1 h2
      have hin : ¬ ((p1 + (128 : Int32)) < 0 ∨ cc.slots.size ≤ ((p1 + (128 : Int32))).toNatClampNeg) := inb_of Bx.2.1 hr
      obtain ⟨b, hat, Eb, Fb⟩ := Bx.2.2.2 _ hin
      dsimp only at Fb
      rw [he] at Fb
      have Ac := Bx.1.ext O0.2
      refine own_st (fun t k => X44.aaload hx (j := (p1 + (128 : Int32))) (v := (.ref b)) (by rw [e44]; exact Ac.1) (State.isArrayOf_alike hZ.alike Ac.2.1) rfl Ac.2.2 hin hat (g := (mkF m 21 #[.val (.int p1)] [(.int (p1 + (128 : Int32))), (.ref ca)])) rfl rfl (hb hby own_d7_21) t k) ?_
      show own_G _ _ _ _ _ _ _ (T44.setTop (mkF m 22 #[.val (.int p1)] [(.ref b)]))
      exact own_retA (ft := (.object "java/lang/Integer")) (w := (.ref b)) rfl rfl X44 hx Bd.returns (BodyLoose.notSynchronized Bd) (hb hby own_d7_22) (by decide) (by decide) ⟨b, rfl, N0, by rw [e44]; exact (Keep.refl h0 []), by rw [e44]; exact Eb.ext O0.2, by rw [e44]; exact Fb.ext O0.2⟩
theorem own_d8_0 : decode jdk_33_method_27_code 0 = .ok (.aload_n 0, 1) := by decide +kernel
theorem own_d8_1 : decode jdk_33_method_27_code 1 = .ok (.getfield 205, 3) := by decide +kernel
theorem own_d8_4 : decode jdk_33_method_27_code 4 = .ok (.ireturn, 1) := by decide +kernel
theorem own_ef8 (m : MethodId) (a1 : Addr) : entryFrame m #[(.ref a1)] 1 = mkF m 0 #[.val (.ref a1)] [] := by first | (simp [entryFrame, mkF, argsToLocals, Value.category]; done) | rfl
set_option maxRecDepth 65536 in
set_option maxHeartbeats 40000000 in
theorem own_rm8 (l : Launch) (Z : State) (a0 : Array Value) (hw : ∀ d ∈ tables_1, d.before a0 Z = true) (ws : List Jvm.Cond) (a1 : Addr) (p1 : Int32) (h0 : Heap) (n0 : Nat) (Z0 : n0 ≤ h0.size) (F1 : Fld Z h0 a1 "java/lang/Integer" "value" "I" (.int p1)) :
    MetFree l (⟨"java/lang/Integer", "intValue", "()I"⟩ : MethodName) (head1 (Jvm.Cond.code (⟨"java/lang/Integer", "intValue", "()I"⟩ : MethodName) jdk_33_method_27_code 1 (some .int) :: ws) ({ frames := 0, cells := 0, slots := 0, locals := 0 } : Room)) (fun a U => a = #[(.ref a1)] ∧ Z.Warmed39 U.vm ∧ U.heap = h0) (fun _ _ _ _ _ => True) (fun _ U o U' => ∃ v L, o = .returned v ∧ own_Qp (some (.int p1)) h0 n0 v U'.heap L ∧ FrameEnd U o U' L ({ frames := 0, cells := 0, slots := 0, locals := 0 } : Room).cells ({ frames := 0, cells := 0, slots := 0, locals := 0 } : Room).slots) := by
  refine MetFree.of_bodySF (plainFor_of_name own_pn5) hisR ?_
  intro p e s m args below meth c s₁ Bd hml0 hP hK
  obtain ⟨rfl, hZ, hh⟩ := hP
  have hx := Bd.exec
  have hby := Bd.bytes
  have hml : c.maxLocals = 1 := hml0
  have hown : s.vm.findClass "java/lang/Integer" = some m.cls := findClass_of_methodNamed Bd.named
  have hnm := (name_of_methodNamed Bd.named Bd.method).1
  have X0 : Stand p l e ({ frames := 0, cells := 0, slots := 0, locals := 0 } : Room) s m #[(.ref a1)] below meth c s₁ [] 0 0 := Stand.of_body Bd
  have e0 : s₁.heap = h0 := by rw [← hh, Bd.state]; rfl
  have N0 := Fr.nil n0
  refine own_in (Q := own_Qp (some (.int p1)) h0 n0) ?_
  rw [own_ef8]
  show own_G _ _ _ _ _ _ _ (s₁.setTop (mkF m 0 #[.val (.ref a1)] []))
  refine own_st (fun t k => XS.aloadN X0.here hx rfl (hb hby own_d8_0) rfl rfl k) ?_
  show own_G _ _ _ _ _ _ _ (s₁.setTop (mkF m 1 #[.val (.ref a1)] [(.ref a1)]))
  obtain ⟨T45, X45, e45, st45⟩ := getF X0 hx hZ hown (host := "") (Or.inl (hw _ (List.mem_of_getElem? (i := 107) rfl))) Via.refl e0 F1 (g := (mkF m 1 #[.val (.ref a1)] [(.ref a1)])) rfl rfl (hb hby own_d8_1)
  refine own_st (fun t k => st45 t k) ?_
  show own_G _ _ _ _ _ _ _ (T45.setTop (mkF m 4 #[.val (.ref a1)] [(.int p1)]))
  exact own_retI X45 hx Bd.returns (BodyLoose.notSynchronized Bd) (hb hby own_d8_4) (by decide) (by decide) ⟨rfl, N0, e45⟩
theorem own_d9_0 : decode jdk_38_method_8_code 0 = .ok (.aload_n 0, 1) := by decide +kernel
theorem own_d9_1 : decode jdk_38_method_8_code 1 = .ok (.getfield 48, 3) := by decide +kernel
theorem own_d9_4 : decode jdk_38_method_8_code 4 = .ok (.ireturn, 1) := by decide +kernel
theorem own_ef9 (m : MethodId) (a1 : Addr) : entryFrame m #[(.ref a1)] 1 = mkF m 0 #[.val (.ref a1)] [] := by first | (simp [entryFrame, mkF, argsToLocals, Value.category]; done) | rfl
set_option maxRecDepth 65536 in
set_option maxHeartbeats 40000000 in
theorem own_rm9 (l : Launch) (Z : State) (a0 : Array Value) (hw : ∀ d ∈ tables_1, d.before a0 Z = true) (ws : List Jvm.Cond) (a1 : Addr) (p1 : Int32) (h0 : Heap) (n0 : Nat) (Z0 : n0 ≤ h0.size) (F1 : Fld Z h0 a1 "java/util/ArrayList" "size" "I" (.int p1)) :
    MetFree l (⟨"java/util/ArrayList", "size", "()I"⟩ : MethodName) (head1 (Jvm.Cond.code (⟨"java/util/ArrayList", "size", "()I"⟩ : MethodName) jdk_38_method_8_code 1 (some .int) :: ws) ({ frames := 0, cells := 0, slots := 0, locals := 0 } : Room)) (fun a U => a = #[(.ref a1)] ∧ Z.Warmed39 U.vm ∧ U.heap = h0) (fun _ _ _ _ _ => True) (fun _ U o U' => ∃ v L, o = .returned v ∧ own_Qp (some (.int p1)) h0 n0 v U'.heap L ∧ FrameEnd U o U' L ({ frames := 0, cells := 0, slots := 0, locals := 0 } : Room).cells ({ frames := 0, cells := 0, slots := 0, locals := 0 } : Room).slots) := by
  refine MetFree.of_bodySF (plainFor_of_name own_pn4) hisR ?_
  intro p e s m args below meth c s₁ Bd hml0 hP hK
  obtain ⟨rfl, hZ, hh⟩ := hP
  have hx := Bd.exec
  have hby := Bd.bytes
  have hml : c.maxLocals = 1 := hml0
  have hown : s.vm.findClass "java/util/ArrayList" = some m.cls := findClass_of_methodNamed Bd.named
  have hnm := (name_of_methodNamed Bd.named Bd.method).1
  have X0 : Stand p l e ({ frames := 0, cells := 0, slots := 0, locals := 0 } : Room) s m #[(.ref a1)] below meth c s₁ [] 0 0 := Stand.of_body Bd
  have e0 : s₁.heap = h0 := by rw [← hh, Bd.state]; rfl
  have N0 := Fr.nil n0
  refine own_in (Q := own_Qp (some (.int p1)) h0 n0) ?_
  rw [own_ef9]
  show own_G _ _ _ _ _ _ _ (s₁.setTop (mkF m 0 #[.val (.ref a1)] []))
  refine own_st (fun t k => XS.aloadN X0.here hx rfl (hb hby own_d9_0) rfl rfl k) ?_
  show own_G _ _ _ _ _ _ _ (s₁.setTop (mkF m 1 #[.val (.ref a1)] [(.ref a1)]))
  obtain ⟨T46, X46, e46, st46⟩ := getF X0 hx hZ hown (host := "") (Or.inl (hw _ (List.mem_of_getElem? (i := 56) rfl))) Via.refl e0 F1 (g := (mkF m 1 #[.val (.ref a1)] [(.ref a1)])) rfl rfl (hb hby own_d9_1)
  refine own_st (fun t k => st46 t k) ?_
  show own_G _ _ _ _ _ _ _ (T46.setTop (mkF m 4 #[.val (.ref a1)] [(.int p1)]))
  exact own_retI X46 hx Bd.returns (BodyLoose.notSynchronized Bd) (hb hby own_d9_4) (by decide) (by decide) ⟨rfl, N0, e46⟩
theorem own_pn6 : plainName "jdk/internal/util/Preconditions" = true := by first | (simp [plainName, overriddenIn]; done) | decide +kernel
theorem own_d10_0 : decode jdk_41_method_11_code 0 = .ok (.iload_n 0, 1) := by decide +kernel
theorem own_d10_1 : decode jdk_41_method_11_code 1 = .ok (.ifCond .lt 8, 3) := by decide +kernel
theorem own_d10_4 : decode jdk_41_method_11_code 4 = .ok (.iload_n 0, 1) := by decide +kernel
theorem own_d10_5 : decode jdk_41_method_11_code 5 = .ok (.iload_n 1, 1) := by decide +kernel
theorem own_d10_6 : decode jdk_41_method_11_code 6 = .ok (.if_icmp .lt 10, 3) := by decide +kernel
theorem own_d10_9 : decode jdk_41_method_11_code 9 = .ok (.aload_n 2, 1) := by decide +kernel
theorem own_d10_10 : decode jdk_41_method_11_code 10 = .ok (.iload_n 0, 1) := by decide +kernel
theorem own_d10_11 : decode jdk_41_method_11_code 11 = .ok (.iload_n 1, 1) := by decide +kernel
theorem own_d10_12 : decode jdk_41_method_11_code 12 = .ok (.invokestatic 95, 3) := by decide +kernel
theorem own_d10_15 : decode jdk_41_method_11_code 15 = .ok (.athrow, 1) := by decide +kernel
theorem own_d10_16 : decode jdk_41_method_11_code 16 = .ok (.iload_n 0, 1) := by decide +kernel
theorem own_d10_17 : decode jdk_41_method_11_code 17 = .ok (.ireturn, 1) := by decide +kernel
theorem own_ef10 (m : MethodId) (p1 : Int32) (p2 : Int32) : entryFrame m #[(.int p1), (.int p2), .null] 3 = mkF m 0 #[.val (.int p1), .val (.int p2), .val .null] [] := by first | (simp [entryFrame, mkF, argsToLocals, Value.category]; done) | rfl
set_option maxRecDepth 65536 in
set_option maxHeartbeats 40000000 in
theorem own_rm10 (l : Launch) (Z : State) (a0 : Array Value) (hw : ∀ d ∈ tables_1, d.before a0 Z = true) (ws : List Jvm.Cond) (p1 p2 : Int32) (h0 : Heap) (n0 : Nat) (Z0 : n0 ≤ h0.size) (hi : ¬ p1 < 0) (hj : p1 < p2) :
    MetFree l (⟨"jdk/internal/util/Preconditions", "checkIndex", "(IILjava/util/function/BiFunction;)I"⟩ : MethodName) (head1 (Jvm.Cond.code (⟨"jdk/internal/util/Preconditions", "checkIndex", "(IILjava/util/function/BiFunction;)I"⟩ : MethodName) jdk_41_method_11_code 3 (some .int) :: ws) ({ frames := 0, cells := 0, slots := 0, locals := 0 } : Room)) (fun a U => a = #[(.int p1), (.int p2), .null] ∧ Z.Warmed39 U.vm ∧ U.heap = h0) (fun _ _ _ _ _ => True) (fun _ U o U' => ∃ v L, o = .returned v ∧ own_Qp (some (.int p1)) h0 n0 v U'.heap L ∧ FrameEnd U o U' L ({ frames := 0, cells := 0, slots := 0, locals := 0 } : Room).cells ({ frames := 0, cells := 0, slots := 0, locals := 0 } : Room).slots) := by
  refine MetFree.of_bodySF (plainFor_of_name own_pn6) hisR ?_
  intro p e s m args below meth c s₁ Bd hml0 hP hK
  obtain ⟨rfl, hZ, hh⟩ := hP
  have hx := Bd.exec
  have hby := Bd.bytes
  have hml : c.maxLocals = 3 := hml0
  have hown : s.vm.findClass "jdk/internal/util/Preconditions" = some m.cls := findClass_of_methodNamed Bd.named
  have hnm := (name_of_methodNamed Bd.named Bd.method).1
  have X0 : Stand p l e ({ frames := 0, cells := 0, slots := 0, locals := 0 } : Room) s m #[(.int p1), (.int p2), .null] below meth c s₁ [] 0 0 := Stand.of_body Bd
  have e0 : s₁.heap = h0 := by rw [← hh, Bd.state]; rfl
  have N0 := Fr.nil n0
  refine own_in (Q := own_Qp (some (.int p1)) h0 n0) ?_
  rw [own_ef10]
  show own_G _ _ _ _ _ _ _ (s₁.setTop (mkF m 0 #[.val (.int p1), .val (.int p2), .val .null] []))
  refine own_st (fun t k => XS.iloadN X0.here hx rfl (hb hby own_d10_0) rfl k) ?_
  show own_G _ _ _ _ _ _ _ (s₁.setTop (mkF m 1 #[.val (.int p1), .val (.int p2), .val .null] [(.int p1)]))
  refine own_st (fun t k => XS.ifNo X0.here hx rfl (hb hby own_d10_1) rfl ((if0 _ _).trans (flt hi).1) k) ?_
  show own_G _ _ _ _ _ _ _ (s₁.setTop (mkF m 4 #[.val (.int p1), .val (.int p2), .val .null] []))
  refine own_st (fun t k => XS.iloadN X0.here hx rfl (hb hby own_d10_4) rfl k) ?_
  show own_G _ _ _ _ _ _ _ (s₁.setTop (mkF m 5 #[.val (.int p1), .val (.int p2), .val .null] [(.int p1)]))
  refine own_st (fun t k => XS.iloadN X0.here hx rfl (hb hby own_d10_5) rfl k) ?_
  show own_G _ _ _ _ _ _ _ (s₁.setTop (mkF m 6 #[.val (.int p1), .val (.int p2), .val .null] [(.int p2), (.int p1)]))
  refine own_st (fun t k => XS.icmpYes X0.here hx rfl (pc0 := 6) (pc' := 16) rfl (hb hby own_d10_6) rfl (tlt hj).1 (by decide) (by decide) k) ?_
  show own_G _ _ _ _ _ _ _ (s₁.setTop (mkF m 16 #[.val (.int p1), .val (.int p2), .val .null] []))
  refine own_st (fun t k => XS.iloadN X0.here hx rfl (hb hby own_d10_16) rfl k) ?_
  show own_G _ _ _ _ _ _ _ (s₁.setTop (mkF m 17 #[.val (.int p1), .val (.int p2), .val .null] [(.int p1)]))
  exact own_retI X0 hx Bd.returns (BodyLoose.notSynchronized Bd) (hb hby own_d10_17) (by decide) (by decide) ⟨rfl, N0, e0⟩
theorem own_pn7 : plainName "java/util/Objects" = true := by first | (simp [plainName, overriddenIn]; done) | decide +kernel
theorem own_d11_0 : decode jdk_31_method_17_code 0 = .ok (.iload_n 0, 1) := by decide +kernel
theorem own_d11_1 : decode jdk_31_method_17_code 1 = .ok (.iload_n 1, 1) := by decide +kernel
theorem own_d11_2 : decode jdk_31_method_17_code 2 = .ok (.aconst_null, 1) := by decide +kernel
theorem own_d11_3 : decode jdk_31_method_17_code 3 = .ok (.invokestatic 105, 3) := by decide +kernel
theorem own_d11_6 : decode jdk_31_method_17_code 6 = .ok (.ireturn, 1) := by decide +kernel
theorem own_ef11 (m : MethodId) (p1 : Int32) (p2 : Int32) : entryFrame m #[(.int p1), (.int p2)] 2 = mkF m 0 #[.val (.int p1), .val (.int p2)] [] := by first | (simp [entryFrame, mkF, argsToLocals, Value.category]; done) | rfl
set_option maxRecDepth 65536 in
set_option maxHeartbeats 40000000 in
theorem own_rm11 (l : Launch) (Z : State) (a0 : Array Value) (hw : ∀ d ∈ tables_1, d.before a0 Z = true) (ws : List Jvm.Cond) (p1 p2 : Int32) (h0 : Heap) (n0 : Nat) (Z0 : n0 ≤ h0.size) (hi : ¬ p1 < 0) (hj : p1 < p2) :
    MetFree l (⟨"java/util/Objects", "checkIndex", "(II)I"⟩ : MethodName) (head1 (Jvm.Cond.code (⟨"java/util/Objects", "checkIndex", "(II)I"⟩ : MethodName) jdk_31_method_17_code 2 (some .int) :: ws) ({ frames := 1, cells := 0, slots := 0, locals := 14 } : Room)) (fun a U => a = #[(.int p1), (.int p2)] ∧ Z.Warmed39 U.vm ∧ U.heap = h0) (fun _ _ _ _ _ => True) (fun _ U o U' => ∃ v L, o = .returned v ∧ own_Qp (some (.int p1)) h0 n0 v U'.heap L ∧ FrameEnd U o U' L ({ frames := 1, cells := 0, slots := 0, locals := 14 } : Room).cells ({ frames := 1, cells := 0, slots := 0, locals := 14 } : Room).slots) := by
  refine MetFree.of_bodySF (plainFor_of_name own_pn7) hisR ?_
  intro p e s m args below meth c s₁ Bd hml0 hP hK
  obtain ⟨rfl, hZ, hh⟩ := hP
  have hx := Bd.exec
  have hby := Bd.bytes
  have hml : c.maxLocals = 2 := hml0
  have hown : s.vm.findClass "java/util/Objects" = some m.cls := findClass_of_methodNamed Bd.named
  have hnm := (name_of_methodNamed Bd.named Bd.method).1
  have X0 : Stand p l e ({ frames := 1, cells := 0, slots := 0, locals := 14 } : Room) s m #[(.int p1), (.int p2)] below meth c s₁ [] 0 0 := Stand.of_body Bd
  have e0 : s₁.heap = h0 := by rw [← hh, Bd.state]; rfl
  have N0 := Fr.nil n0
  refine own_in (Q := own_Qp (some (.int p1)) h0 n0) ?_
  rw [own_ef11]
  show own_G _ _ _ _ _ _ _ (s₁.setTop (mkF m 0 #[.val (.int p1), .val (.int p2)] []))
  refine own_st (fun t k => XS.iloadN X0.here hx rfl (hb hby own_d11_0) rfl k) ?_
  show own_G _ _ _ _ _ _ _ (s₁.setTop (mkF m 1 #[.val (.int p1), .val (.int p2)] [(.int p1)]))
  refine own_st (fun t k => XS.iloadN X0.here hx rfl (hb hby own_d11_1) rfl k) ?_
  show own_G _ _ _ _ _ _ _ (s₁.setTop (mkF m 2 #[.val (.int p1), .val (.int p2)] [(.int p2), (.int p1)]))
  refine own_st (fun t k => XS.aconstNull X0.here hx rfl (hb hby own_d11_2) k) ?_
  show own_G _ _ _ _ _ _ _ (s₁.setTop (mkF m 3 #[.val (.int p1), .val (.int p2)] [.null, (.int p2), (.int p1)]))
  obtain ⟨_, _, ⟨T47, L47, k47, n47⟩, -, X47, ⟨Lc47, hQ47, l47, y47, z47⟩, st47⟩ := Jvm.LawKit.callS X0 hx (y := (⟨"jdk/internal/util/Preconditions", "checkIndex", "(IILjava/util/function/BiFunction;)I"⟩ : MethodName)) hown (mvT hZ (hw _ (List.mem_of_getElem? (i := 121) rfl))) (mvT hZ (hw _ (List.mem_of_getElem? (i := 122) rfl))) (mvT hZ (hw _ (List.mem_of_getElem? (i := 123) rfl))) (mvT hZ (hw _ (List.mem_of_getElem? (i := 124) rfl))) (by decide) (backOf (W := 0) (own_rm10 l Z a0 hw [] p1 p2 h0 n0 Z0 hi hj) hZ (hw _ (List.mem_of_getElem? (i := 124) rfl)) (hw _ (List.mem_of_getElem? (i := 123) rfl)) (by decide) (by decide)) (g := (mkF m 3 #[.val (.int p1), .val (.int p2)] [.null, (.int p2), (.int p1)])) rfl (by rw [hml]; rfl) (argsL := [(.int p1), (.int p2), .null]) (rest := []) (lenOf own_pd13 rfl) rfl (by show 2 * 0 + _ ≤ _; exact Nat.le_of_eq rfl) (hb hby own_d11_3) (fun _ _ => ⟨rfl, e0, (by decide : 0 + 0 ≤ _), (by decide : 0 + 0 ≤ _)⟩)
  dsimp only [Pt.U, Pt.locs, Pt.cells, Pt.slots] at X47 l47 y47 z47 st47 hQ47
  subst l47 y47 z47
  obtain ⟨rfl, N47q, e47⟩ := hQ47
  have N47 := Fr.app N0 N47q
  refine own_st (fun t k => st47 t k) ?_
  show own_G _ _ _ _ _ _ _ (T47.setTop (mkF m 6 #[.val (.int p1), .val (.int p2)] [(.int p1)]))
  exact own_retI X47 hx Bd.returns (BodyLoose.notSynchronized Bd) (hb hby own_d11_6) (by decide) (by decide) ⟨rfl, N47, e47⟩
theorem own_d12_0 : decode jdk_38_method_18_code 0 = .ok (.aload_n 0, 1) := by decide +kernel
theorem own_d12_1 : decode jdk_38_method_18_code 1 = .ok (.getfield 9, 3) := by decide +kernel
theorem own_d12_4 : decode jdk_38_method_18_code 4 = .ok (.iload_n 1, 1) := by decide +kernel
theorem own_d12_5 : decode jdk_38_method_18_code 5 = .ok (.aaload, 1) := by decide +kernel
theorem own_d12_6 : decode jdk_38_method_18_code 6 = .ok (.areturn, 1) := by decide +kernel
theorem own_ef12 (m : MethodId) (a1 : Addr) (p1 : Int32) : entryFrame m #[(.ref a1), (.int p1)] 2 = mkF m 0 #[.val (.ref a1), .val (.int p1)] [] := by first | (simp [entryFrame, mkF, argsToLocals, Value.category]; done) | rfl
set_option maxRecDepth 65536 in
set_option maxHeartbeats 40000000 in
theorem own_rm12 (l : Launch) (Z : State) (a0 : Array Value) (hw : ∀ d ∈ tables_1, d.before a0 Z = true) (ws : List Jvm.Cond) (a1 : Addr) (p1 : Int32) (d1 b1 : Addr) (kd : ClassId) (vs : List Value) (h0 : Heap) (n0 : Nat) (Z0 : n0 ≤ h0.size) (Fe : Fld Z h0 a1 "java/util/ArrayList" "elementData" "[Ljava/lang/Object;" (.ref d1)) (Vd : Arv Z h0 d1 kd (.object "java/lang/Object") 10 vs .null) (hi : ¬ p1 < 0) (hk : p1 < 10) (hxe : vs.getD p1.toNatClampNeg .null = .ref b1) :
    MetFree l (⟨"java/util/ArrayList", "elementData", "(I)Ljava/lang/Object;"⟩ : MethodName) (head1 (Jvm.Cond.code (⟨"java/util/ArrayList", "elementData", "(I)Ljava/lang/Object;"⟩ : MethodName) jdk_38_method_18_code 2 (some (.object "java/lang/Object")) :: ws) ({ frames := 0, cells := 0, slots := 0, locals := 0 } : Room)) (fun a U => a = #[(.ref a1), (.int p1)] ∧ Z.Warmed39 U.vm ∧ U.heap = h0) (fun _ _ _ _ _ => True) (fun _ U o U' => ∃ v L, o = .returned v ∧ own_Qp (some (.ref b1)) h0 n0 v U'.heap L ∧ FrameEnd U o U' L ({ frames := 0, cells := 0, slots := 0, locals := 0 } : Room).cells ({ frames := 0, cells := 0, slots := 0, locals := 0 } : Room).slots) := by
  refine MetFree.of_bodySF (plainFor_of_name own_pn4) hisR ?_
  intro p e s m args below meth c s₁ Bd hml0 hP hK
  obtain ⟨rfl, hZ, hh⟩ := hP
  have hx := Bd.exec
  have hby := Bd.bytes
  have hml : c.maxLocals = 2 := hml0
  have hown : s.vm.findClass "java/util/ArrayList" = some m.cls := findClass_of_methodNamed Bd.named
  have hnm := (name_of_methodNamed Bd.named Bd.method).1
  have X0 : Stand p l e ({ frames := 0, cells := 0, slots := 0, locals := 0 } : Room) s m #[(.ref a1), (.int p1)] below meth c s₁ [] 0 0 := Stand.of_body Bd
  have e0 : s₁.heap = h0 := by rw [← hh, Bd.state]; rfl
  have N0 := Fr.nil n0
  refine own_in (Q := own_Qp (some (.ref b1)) h0 n0) ?_
  rw [own_ef12]
  show own_G _ _ _ _ _ _ _ (s₁.setTop (mkF m 0 #[.val (.ref a1), .val (.int p1)] []))
  refine own_st (fun t k => XS.aloadN X0.here hx rfl (hb hby own_d12_0) rfl rfl k) ?_
  show own_G _ _ _ _ _ _ _ (s₁.setTop (mkF m 1 #[.val (.ref a1), .val (.int p1)] [(.ref a1)]))
  obtain ⟨T48, X48, e48, st48⟩ := getF X0 hx hZ hown (host := "") (Or.inl (hw _ (List.mem_of_getElem? (i := 24) rfl))) Via.refl e0 Fe (g := (mkF m 1 #[.val (.ref a1), .val (.int p1)] [(.ref a1)])) rfl rfl (hb hby own_d12_1)
  refine own_st (fun t k => st48 t k) ?_
  show own_G _ _ _ _ _ _ _ (T48.setTop (mkF m 4 #[.val (.ref a1), .val (.int p1)] [(.ref d1)]))
  refine own_st (fun t k => XS.iloadN X48.here hx rfl (hb hby own_d12_4) rfl k) ?_
  show own_G _ _ _ _ _ _ _ (T48.setTop (mkF m 5 #[.val (.ref a1), .val (.int p1)] [(.int p1), (.ref d1)]))
  obtain ⟨cl, Ar, -, Sz, Mz, Hz, -⟩ := Vd
  have hin : ¬ (p1 < 0 ∨ cl.slots.size ≤ p1.toNatClampNeg) := inb_of Sz ⟨hi, hk⟩
  have hat := Has.at Hz hin hxe
  refine own_st (fun t k => X48.aaload hx (j := p1) (v := (.ref b1)) (by rw [e48]; exact Ar.1) (State.isArrayOf_alike hZ.alike Ar.2.1) rfl Ar.2.2 hin hat (g := (mkF m 5 #[.val (.ref a1), .val (.int p1)] [(.int p1), (.ref d1)])) rfl rfl (hb hby own_d12_5) t k) ?_
  show own_G _ _ _ _ _ _ _ (T48.setTop (mkF m 6 #[.val (.ref a1), .val (.int p1)] [(.ref b1)]))
  exact own_retA (ft := (.object "java/lang/Object")) (w := (.ref b1)) rfl rfl X48 hx Bd.returns (BodyLoose.notSynchronized Bd) (hb hby own_d12_6) (by decide) (by decide) ⟨rfl, N0, e48⟩
theorem own_d13_0 : decode jdk_38_method_20_code 0 = .ok (.iload_n 1, 1) := by decide +kernel
theorem own_d13_1 : decode jdk_38_method_20_code 1 = .ok (.aload_n 0, 1) := by decide +kernel
theorem own_d13_2 : decode jdk_38_method_20_code 2 = .ok (.getfield 48, 3) := by decide +kernel
theorem own_d13_5 : decode jdk_38_method_20_code 5 = .ok (.invokestatic 118, 3) := by decide +kernel
theorem own_d13_8 : decode jdk_38_method_20_code 8 = .ok (.pop, 1) := by decide +kernel
theorem own_d13_9 : decode jdk_38_method_20_code 9 = .ok (.aload_n 0, 1) := by decide +kernel
theorem own_d13_10 : decode jdk_38_method_20_code 10 = .ok (.iload_n 1, 1) := by decide +kernel
theorem own_d13_11 : decode jdk_38_method_20_code 11 = .ok (.invokevirtual 123, 3) := by decide +kernel
theorem own_d13_14 : decode jdk_38_method_20_code 14 = .ok (.areturn, 1) := by decide +kernel
theorem own_ef13 (m : MethodId) (a1 : Addr) (p1 : Int32) : entryFrame m #[(.ref a1), (.int p1)] 2 = mkF m 0 #[.val (.ref a1), .val (.int p1)] [] := by first | (simp [entryFrame, mkF, argsToLocals, Value.category]; done) | rfl
set_option maxRecDepth 65536 in
set_option maxHeartbeats 40000000 in
theorem own_rm13 (l : Launch) (Z : State) (a0 : Array Value) (hw : ∀ d ∈ tables_1, d.before a0 Z = true) (ws : List Jvm.Cond) (a1 : Addr) (p1 : Int32) (d1 b1 : Addr) (kd : ClassId) (vs : List Value) (sz : Int32) (h0 : Heap) (n0 : Nat) (Z0 : n0 ≤ h0.size) (E1 : Exa Z h0 a1 "java/util/ArrayList") (Fs : Fld Z h0 a1 "java/util/ArrayList" "size" "I" (.int sz)) (hj : p1 < sz) (Fe : Fld Z h0 a1 "java/util/ArrayList" "elementData" "[Ljava/lang/Object;" (.ref d1)) (Vd : Arv Z h0 d1 kd (.object "java/lang/Object") 10 vs .null) (hi : ¬ p1 < 0) (hk : p1 < 10) (hxe : vs.getD p1.toNatClampNeg .null = .ref b1) :
    MetFree l (⟨"java/util/ArrayList", "get", "(I)Ljava/lang/Object;"⟩ : MethodName) (head1 (Jvm.Cond.code (⟨"java/util/ArrayList", "get", "(I)Ljava/lang/Object;"⟩ : MethodName) jdk_38_method_20_code 2 (some (.object "java/lang/Object")) :: ws) ({ frames := 2, cells := 0, slots := 0, locals := 27 } : Room)) (fun a U => a = #[(.ref a1), (.int p1)] ∧ Z.Warmed39 U.vm ∧ U.heap = h0) (fun _ _ _ _ _ => True) (fun _ U o U' => ∃ v L, o = .returned v ∧ own_Qp (some (.ref b1)) h0 n0 v U'.heap L ∧ FrameEnd U o U' L ({ frames := 2, cells := 0, slots := 0, locals := 27 } : Room).cells ({ frames := 2, cells := 0, slots := 0, locals := 27 } : Room).slots) := by
  refine MetFree.of_bodySF (plainFor_of_name own_pn4) hisR ?_
  intro p e s m args below meth c s₁ Bd hml0 hP hK
  obtain ⟨rfl, hZ, hh⟩ := hP
  have hx := Bd.exec
  have hby := Bd.bytes
  have hml : c.maxLocals = 2 := hml0
  have hown : s.vm.findClass "java/util/ArrayList" = some m.cls := findClass_of_methodNamed Bd.named
  have hnm := (name_of_methodNamed Bd.named Bd.method).1
  have X0 : Stand p l e ({ frames := 2, cells := 0, slots := 0, locals := 27 } : Room) s m #[(.ref a1), (.int p1)] below meth c s₁ [] 0 0 := Stand.of_body Bd
  have e0 : s₁.heap = h0 := by rw [← hh, Bd.state]; rfl
  have N0 := Fr.nil n0
  refine own_in (Q := own_Qp (some (.ref b1)) h0 n0) ?_
  rw [own_ef13]
  show own_G _ _ _ _ _ _ _ (s₁.setTop (mkF m 0 #[.val (.ref a1), .val (.int p1)] []))
  refine own_st (fun t k => XS.iloadN X0.here hx rfl (hb hby own_d13_0) rfl k) ?_
  show own_G _ _ _ _ _ _ _ (s₁.setTop (mkF m 1 #[.val (.ref a1), .val (.int p1)] [(.int p1)]))
  refine own_st (fun t k => XS.aloadN X0.here hx rfl (hb hby own_d13_1) rfl rfl k) ?_
  show own_G _ _ _ _ _ _ _ (s₁.setTop (mkF m 2 #[.val (.ref a1), .val (.int p1)] [(.ref a1), (.int p1)]))
  obtain ⟨T49, X49, e49, st49⟩ := getF X0 hx hZ hown (host := "") (Or.inl (hw _ (List.mem_of_getElem? (i := 56) rfl))) Via.refl e0 Fs (g := (mkF m 2 #[.val (.ref a1), .val (.int p1)] [(.ref a1), (.int p1)])) rfl rfl (hb hby own_d13_2)
  refine own_st (fun t k => st49 t k) ?_
  show own_G _ _ _ _ _ _ _ (T49.setTop (mkF m 5 #[.val (.ref a1), .val (.int p1)] [(.int sz), (.int p1)]))
  obtain ⟨_, _, ⟨T50, L50, k50, n50⟩, -, X50, ⟨Lc50, hQ50, l50, y50, z50⟩, st50⟩ := Jvm.LawKit.callS X49 hx (y := (⟨"java/util/Objects", "checkIndex", "(II)I"⟩ : MethodName)) hown (mvT hZ (hw _ (List.mem_of_getElem? (i := 117) rfl))) (mvT hZ (hw _ (List.mem_of_getElem? (i := 118) rfl))) (mvT hZ (hw _ (List.mem_of_getElem? (i := 119) rfl))) (mvT hZ (hw _ (List.mem_of_getElem? (i := 120) rfl))) (by decide) (backOf (W := 0) (own_rm11 l Z a0 hw [] p1 sz h0 n0 Z0 hi hj) hZ (hw _ (List.mem_of_getElem? (i := 120) rfl)) (hw _ (List.mem_of_getElem? (i := 119) rfl)) (by decide) (by decide)) (g := (mkF m 5 #[.val (.ref a1), .val (.int p1)] [(.int sz), (.int p1)])) rfl (by rw [hml]; rfl) (argsL := [(.int p1), (.int sz)]) (rest := []) (lenOf own_pd10 rfl) rfl (by show 2 * 0 + _ ≤ _; exact Nat.le_of_eq rfl) (hb hby own_d13_5) (fun _ _ => ⟨rfl, e49, (by decide : 0 + 0 ≤ _), (by decide : 0 + 0 ≤ _)⟩)
  dsimp only [Pt.U, Pt.locs, Pt.cells, Pt.slots] at X50 l50 y50 z50 st50 hQ50
  subst l50 y50 z50
  obtain ⟨rfl, N50q, e50⟩ := hQ50
  have N50 := Fr.app N0 N50q
  refine own_st (fun t k => st50 t k) ?_
  show own_G _ _ _ _ _ _ _ (T50.setTop (mkF m 8 #[.val (.ref a1), .val (.int p1)] [(.int p1)]))
  refine own_st (fun t k => XS.pop X50.here hx rfl (hb hby own_d13_8) rfl rfl k) ?_
  show own_G _ _ _ _ _ _ _ (T50.setTop (mkF m 9 #[.val (.ref a1), .val (.int p1)] []))
  refine own_st (fun t k => XS.aloadN X50.here hx rfl (hb hby own_d13_9) rfl rfl k) ?_
  show own_G _ _ _ _ _ _ _ (T50.setTop (mkF m 10 #[.val (.ref a1), .val (.int p1)] [(.ref a1)]))
  refine own_st (fun t k => XS.iloadN X50.here hx rfl (hb hby own_d13_10) rfl k) ?_
  show own_G _ _ _ _ _ _ _ (T50.setTop (mkF m 11 #[.val (.ref a1), .val (.int p1)] [(.int p1), (.ref a1)]))
  obtain ⟨cq51, kq51, q51a, q51b, q51c⟩ := isOf hZ e50 E1
  obtain ⟨_, _, ⟨T51, L51, k51, n51⟩, -, X51, ⟨Lc51, hQ51, l51, y51, z51⟩, st51⟩ := X50.virtualBack hx (y := (⟨"java/util/ArrayList", "elementData", "(I)Ljava/lang/Object;"⟩ : MethodName)) (z := (⟨"java/util/ArrayList", "elementData", "(I)Ljava/lang/Object;"⟩ : MethodName)) hown (mvT hZ (hw _ (List.mem_of_getElem? (i := 125) rfl))) (mvT hZ (hw _ (List.mem_of_getElem? (i := 126) rfl))) (notFace_of_selects (args := #[]) (mvT hZ (hw _ (List.mem_of_getElem? (i := 128) rfl)))) (mvT hZ (hw _ (List.mem_of_getElem? (i := 128) rfl))) (mvT hZ (hw _ (List.mem_of_getElem? (i := 127) rfl))) (by decide) (backOf (W := 0) (own_rm12 l Z a0 hw [] a1 p1 d1 b1 kd vs h0 n0 Z0 Fe Vd hi hk hxe) hZ (hw _ (List.mem_of_getElem? (i := 129) rfl)) (hw _ (List.mem_of_getElem? (i := 2) rfl)) (by decide) (by decide)) q51a q51c (g := (mkF m 11 #[.val (.ref a1), .val (.int p1)] [(.int p1), (.ref a1)])) rfl (by rw [hml]; rfl) (Steps.refl _) (argsL := [(.int p1)]) (rest := []) (lenOf own_pd12 rfl) rfl (by show 2 * 0 + _ ≤ _; exact Nat.le_of_eq rfl) (hb hby own_d13_11) (fun _ _ => ⟨rfl, e50, (by decide : 0 + 0 ≤ _), (by decide : 0 + 0 ≤ _)⟩)
  dsimp only [Pt.U, Pt.locs, Pt.cells, Pt.slots] at X51 l51 y51 z51 st51 hQ51
  subst l51 y51 z51
  obtain ⟨rfl, N51q, e51⟩ := hQ51
  have N51 := Fr.app N50 N51q
  refine own_st (fun t k => st51.trans k) ?_
  show own_G _ _ _ _ _ _ _ (T51.setTop (mkF m 14 #[.val (.ref a1), .val (.int p1)] [(.ref b1)]))
  exact own_retA (ft := (.object "java/lang/Object")) (w := (.ref b1)) rfl rfl X51 hx Bd.returns (BodyLoose.notSynchronized Bd) (hb hby own_d13_14) (by decide) (by decide) ⟨rfl, N51, e51⟩
def own_max (x y : Int32) : Int32 := if x < y then y else x
theorem own_d14_0 : decode jdk_29_method_65_code 0 = .ok (.iload_n 0, 1) := by decide +kernel
theorem own_d14_1 : decode jdk_29_method_65_code 1 = .ok (.iload_n 1, 1) := by decide +kernel
theorem own_d14_2 : decode jdk_29_method_65_code 2 = .ok (.if_icmp .lt 7, 3) := by decide +kernel
theorem own_d14_5 : decode jdk_29_method_65_code 5 = .ok (.iload_n 0, 1) := by decide +kernel
theorem own_d14_6 : decode jdk_29_method_65_code 6 = .ok (.goto 4, 3) := by decide +kernel
theorem own_d14_9 : decode jdk_29_method_65_code 9 = .ok (.iload_n 1, 1) := by decide +kernel
theorem own_d14_10 : decode jdk_29_method_65_code 10 = .ok (.ireturn, 1) := by decide +kernel
theorem own_ef14 (m : MethodId) (p1 : Int32) (p2 : Int32) : entryFrame m #[(.int p1), (.int p2)] 2 = mkF m 0 #[.val (.int p1), .val (.int p2)] [] := by first | (simp [entryFrame, mkF, argsToLocals, Value.category]; done) | rfl
set_option maxRecDepth 65536 in
set_option maxHeartbeats 40000000 in
theorem own_rm14 (l : Launch) (Z : State) (a0 : Array Value) (hw : ∀ d ∈ tables_1, d.before a0 Z = true) (ws : List Jvm.Cond) (p1 p2 : Int32) (h0 : Heap) (n0 : Nat) (Z0 : n0 ≤ h0.size)  :
    MetFree l (⟨"java/lang/Math", "max", "(II)I"⟩ : MethodName) (head1 (Jvm.Cond.code (⟨"java/lang/Math", "max", "(II)I"⟩ : MethodName) jdk_29_method_65_code 2 (some .int) :: ws) ({ frames := 0, cells := 0, slots := 0, locals := 0 } : Room)) (fun a U => a = #[(.int p1), (.int p2)] ∧ Z.Warmed39 U.vm ∧ U.heap = h0) (fun _ _ _ _ _ => True) (fun _ U o U' => ∃ v L, o = .returned v ∧ own_Qp (some (.int (own_max p1 p2))) h0 n0 v U'.heap L ∧ FrameEnd U o U' L ({ frames := 0, cells := 0, slots := 0, locals := 0 } : Room).cells ({ frames := 0, cells := 0, slots := 0, locals := 0 } : Room).slots) := by
  refine MetFree.of_bodySF (Jvm.Free.JP.mathPlain rfl (by decide +kernel)) hisR ?_
  intro p e s m args below meth c s₁ Bd hml0 hP hK
  obtain ⟨rfl, hZ, hh⟩ := hP
  have hx := Bd.exec
  have hby := Bd.bytes
  have hml : c.maxLocals = 2 := hml0
  have hown : s.vm.findClass "java/lang/Math" = some m.cls := findClass_of_methodNamed Bd.named
  have hnm := (name_of_methodNamed Bd.named Bd.method).1
  have X0 : Stand p l e ({ frames := 0, cells := 0, slots := 0, locals := 0 } : Room) s m #[(.int p1), (.int p2)] below meth c s₁ [] 0 0 := Stand.of_body Bd
  have e0 : s₁.heap = h0 := by rw [← hh, Bd.state]; rfl
  have N0 := Fr.nil n0
  refine own_in (Q := own_Qp (some (.int (own_max p1 p2))) h0 n0) ?_
  rw [own_ef14]
  show own_G _ _ _ _ _ _ _ (s₁.setTop (mkF m 0 #[.val (.int p1), .val (.int p2)] []))
  refine own_st (fun t k => XS.iloadN X0.here hx rfl (hb hby own_d14_0) rfl k) ?_
  show own_G _ _ _ _ _ _ _ (s₁.setTop (mkF m 1 #[.val (.int p1), .val (.int p2)] [(.int p1)]))
  refine own_st (fun t k => XS.iloadN X0.here hx rfl (hb hby own_d14_1) rfl k) ?_
  show own_G _ _ _ _ _ _ _ (s₁.setTop (mkF m 2 #[.val (.int p1), .val (.int p2)] [(.int p2), (.int p1)]))
  by_cases hc : p1 < p2
  · refine own_st (fun t k => XS.icmpYes X0.here hx rfl (pc0 := 2) (pc' := 9) rfl (hb hby own_d14_2) rfl (tlt hc).1 (by decide) (by decide) k) ?_
    show own_G _ _ _ _ _ _ _ (s₁.setTop (mkF m 9 #[.val (.int p1), .val (.int p2)] []))
    refine own_st (fun t k => XS.iloadN X0.here hx rfl (hb hby own_d14_9) rfl k) ?_
    show own_G _ _ _ _ _ _ _ (s₁.setTop (mkF m 10 #[.val (.int p1), .val (.int p2)] [(.int p2)]))
    exact own_retI X0 hx Bd.returns (BodyLoose.notSynchronized Bd) (hb hby own_d14_10) (by decide) (by decide) ⟨congrArg (fun z => some (Value.int z)) (show _ = own_max _ _ by simp only [own_max, if_pos hc]), N0, e0⟩
  · refine own_st (fun t k => XS.icmpNo X0.here hx rfl (hb hby own_d14_2) rfl (flt hc).1 k) ?_
    show own_G _ _ _ _ _ _ _ (s₁.setTop (mkF m 5 #[.val (.int p1), .val (.int p2)] []))
    refine own_st (fun t k => XS.iloadN X0.here hx rfl (hb hby own_d14_5) rfl k) ?_
    show own_G _ _ _ _ _ _ _ (s₁.setTop (mkF m 6 #[.val (.int p1), .val (.int p2)] [(.int p1)]))
    refine own_st (fun t k => XS.goto X0.here hx rfl (pc0 := 6) (pc' := 10) rfl (hb hby own_d14_6) (by decide) (by decide) k) ?_
    show own_G _ _ _ _ _ _ _ (s₁.setTop (mkF m 10 #[.val (.int p1), .val (.int p2)] [(.int p1)]))
    exact own_retI X0 hx Bd.returns (BodyLoose.notSynchronized Bd) (hb hby own_d14_10) (by decide) (by decide) ⟨congrArg (fun z => some (Value.int z)) (show _ = own_max _ _ by simp only [own_max, if_neg hc]), N0, e0⟩
def own_Q15 (Z : State) (a1 : Addr) (mc : Int32) (h0 : Heap) (n0 : Nat) (v : Option Value) (h : Heap) (L : List Loc) : Prop := ∃ (d : Addr) (kd : ClassId), v = some (.ref d) ∧ Fr n0 L ∧ Keep h0 h [a1] ∧ Exa Z h a1 "java/util/ArrayList" ∧ Fld Z h a1 "java/util/AbstractList" "modCount" "I" (.int mc) ∧ Fld Z h a1 "java/util/ArrayList" "size" "I" (.int 0) ∧ Fld Z h a1 "java/util/ArrayList" "elementData" "[Ljava/lang/Object;" (.ref d) ∧ Arv Z h d kd (.object "java/lang/Object") 10 [.null, .null, .null, .null, .null, .null, .null, .null, .null, .null] .null ∧ Ovr Z kd "java/lang/Object" ∧ h0.size ≤ d ∧ n0 ≤ d
theorem own_d15_0 : decode jdk_38_method_6_code 0 = .ok (.aload_n 0, 1) := by decide +kernel
theorem own_d15_1 : decode jdk_38_method_6_code 1 = .ok (.getfield 9, 3) := by decide +kernel
theorem own_d15_4 : decode jdk_38_method_6_code 4 = .ok (.arraylength, 1) := by decide +kernel
theorem own_d15_5 : decode jdk_38_method_6_code 5 = .ok (.istore_n 2, 1) := by decide +kernel
theorem own_d15_6 : decode jdk_38_method_6_code 6 = .ok (.iload_n 2, 1) := by decide +kernel
theorem own_d15_7 : decode jdk_38_method_6_code 7 = .ok (.ifCond .gt 13, 3) := by decide +kernel
theorem own_d15_10 : decode jdk_38_method_6_code 10 = .ok (.aload_n 0, 1) := by decide +kernel
theorem own_d15_11 : decode jdk_38_method_6_code 11 = .ok (.getfield 9, 3) := by decide +kernel
theorem own_d15_14 : decode jdk_38_method_6_code 14 = .ok (.getstatic 39, 3) := by decide +kernel
theorem own_d15_17 : decode jdk_38_method_6_code 17 = .ok (.if_acmp .eq 28, 3) := by decide +kernel
theorem own_d15_20 : decode jdk_38_method_6_code 20 = .ok (.iload_n 2, 1) := by decide +kernel
theorem own_d15_21 : decode jdk_38_method_6_code 21 = .ok (.iload_n 1, 1) := by decide +kernel
theorem own_d15_22 : decode jdk_38_method_6_code 22 = .ok (.iload_n 2, 1) := by decide +kernel
theorem own_d15_23 : decode jdk_38_method_6_code 23 = .ok (.isub, 1) := by decide +kernel
theorem own_d15_24 : decode jdk_38_method_6_code 24 = .ok (.iload_n 2, 1) := by decide +kernel
theorem own_d15_25 : decode jdk_38_method_6_code 25 = .ok (.iconst 1, 1) := by decide +kernel
theorem own_d15_26 : decode jdk_38_method_6_code 26 = .ok (.ishr, 1) := by decide +kernel
theorem own_d15_27 : decode jdk_38_method_6_code 27 = .ok (.invokestatic 73, 3) := by decide +kernel
theorem own_d15_30 : decode jdk_38_method_6_code 30 = .ok (.istore_n 3, 1) := by decide +kernel
theorem own_d15_31 : decode jdk_38_method_6_code 31 = .ok (.aload_n 0, 1) := by decide +kernel
theorem own_d15_32 : decode jdk_38_method_6_code 32 = .ok (.aload_n 0, 1) := by decide +kernel
theorem own_d15_33 : decode jdk_38_method_6_code 33 = .ok (.getfield 9, 3) := by decide +kernel
theorem own_d15_36 : decode jdk_38_method_6_code 36 = .ok (.iload_n 3, 1) := by decide +kernel
theorem own_d15_37 : decode jdk_38_method_6_code 37 = .ok (.invokestatic 66, 3) := by decide +kernel
theorem own_d15_40 : decode jdk_38_method_6_code 40 = .ok (.dup_x1, 1) := by decide +kernel
theorem own_d15_41 : decode jdk_38_method_6_code 41 = .ok (.putfield 9, 3) := by decide +kernel
theorem own_d15_44 : decode jdk_38_method_6_code 44 = .ok (.areturn, 1) := by decide +kernel
theorem own_d15_45 : decode jdk_38_method_6_code 45 = .ok (.aload_n 0, 1) := by decide +kernel
theorem own_d15_46 : decode jdk_38_method_6_code 46 = .ok (.bipush 10, 2) := by decide +kernel
theorem own_d15_48 : decode jdk_38_method_6_code 48 = .ok (.iload_n 1, 1) := by decide +kernel
theorem own_d15_49 : decode jdk_38_method_6_code 49 = .ok (.invokestatic 79, 3) := by decide +kernel
theorem own_d15_52 : decode jdk_38_method_6_code 52 = .ok (.anewarray 7, 3) := by decide +kernel
theorem own_d15_55 : decode jdk_38_method_6_code 55 = .ok (.dup_x1, 1) := by decide +kernel
theorem own_d15_56 : decode jdk_38_method_6_code 56 = .ok (.putfield 9, 3) := by decide +kernel
theorem own_d15_59 : decode jdk_38_method_6_code 59 = .ok (.areturn, 1) := by decide +kernel
theorem own_ef15 (m : MethodId) (a1 : Addr) : entryFrame m #[(.ref a1), (.int (1 : Int32))] 4 = mkF m 0 #[.val (.ref a1), .val (.int (1 : Int32)), .unset, .unset] [] := by first | (simp [entryFrame, mkF, argsToLocals, Value.category]; done) | rfl
set_option maxRecDepth 65536 in
set_option maxHeartbeats 40000000 in
theorem own_rm15 (l : Launch) (Z : State) (a0 : Array Value) (hw : ∀ d ∈ tables_1, d.before a0 Z = true) (ws : List Jvm.Cond) (a1 : Addr) (mc : Int32) (df : Addr) (kf : ClassId) (h0 : Heap) (n0 : Nat) (Z0 : n0 ≤ h0.size) (E1 : Exa Z h0 a1 "java/util/ArrayList") (Fm : Fld Z h0 a1 "java/util/AbstractList" "modCount" "I" (.int mc)) (Fs : Fld Z h0 a1 "java/util/ArrayList" "size" "I" (.int 0)) (Fe : Fld Z h0 a1 "java/util/ArrayList" "elementData" "[Ljava/lang/Object;" (.ref df)) (g1 : n0 ≤ a1) (Sd : Sta Z h0 "java/util/ArrayList" "DEFAULTCAPACITY_EMPTY_ELEMENTDATA" "[Ljava/lang/Object;" (.ref df)) (Vf : Arv Z h0 df kf (.object "java/lang/Object") 0 [] .null) :
    MetFree l (⟨"java/util/ArrayList", "grow", "(I)[Ljava/lang/Object;"⟩ : MethodName) (head1 (Jvm.Cond.code (⟨"java/util/ArrayList", "grow", "(I)[Ljava/lang/Object;"⟩ : MethodName) jdk_38_method_6_code 4 (some (.array (.object "java/lang/Object"))) :: ws) ({ frames := 1, cells := 1, slots := 10, locals := 14 } : Room)) (fun a U => a = #[(.ref a1), (.int (1 : Int32))] ∧ Z.Warmed39 U.vm ∧ U.heap = h0) (fun _ _ _ _ _ => True) (fun _ U o U' => ∃ v L, o = .returned v ∧ own_Q15 Z a1 mc h0 n0 v U'.heap L ∧ FrameEnd U o U' L ({ frames := 1, cells := 1, slots := 10, locals := 14 } : Room).cells ({ frames := 1, cells := 1, slots := 10, locals := 14 } : Room).slots) := by
  refine MetFree.of_bodySF (plainFor_of_name own_pn4) hisR ?_
  intro p e s m args below meth c s₁ Bd hml0 hP hK
  obtain ⟨rfl, hZ, hh⟩ := hP
  have hx := Bd.exec
  have hby := Bd.bytes
  have hml : c.maxLocals = 4 := hml0
  have hown : s.vm.findClass "java/util/ArrayList" = some m.cls := findClass_of_methodNamed Bd.named
  have hnm := (name_of_methodNamed Bd.named Bd.method).1
  have X0 : Stand p l e ({ frames := 1, cells := 1, slots := 10, locals := 14 } : Room) s m #[(.ref a1), (.int (1 : Int32))] below meth c s₁ [] 0 0 := Stand.of_body Bd
  have e0 : s₁.heap = h0 := by rw [← hh, Bd.state]; rfl
  have N0 := Fr.nil n0
  refine own_in (Q := own_Q15 Z a1 mc h0 n0) ?_
  rw [own_ef15]
  show own_G _ _ _ _ _ _ _ (s₁.setTop (mkF m 0 #[.val (.ref a1), .val (.int (1 : Int32)), .unset, .unset] []))
  refine own_st (fun t k => XS.aloadN X0.here hx rfl (hb hby own_d15_0) rfl rfl k) ?_
  show own_G _ _ _ _ _ _ _ (s₁.setTop (mkF m 1 #[.val (.ref a1), .val (.int (1 : Int32)), .unset, .unset] [(.ref a1)]))
  obtain ⟨T52, X52, e52, st52⟩ := getF X0 hx hZ hown (host := "") (Or.inl (hw _ (List.mem_of_getElem? (i := 24) rfl))) Via.refl e0 Fe (g := (mkF m 1 #[.val (.ref a1), .val (.int (1 : Int32)), .unset, .unset] [(.ref a1)])) rfl rfl (hb hby own_d15_1)
  refine own_st (fun t k => st52 t k) ?_
  show own_G _ _ _ _ _ _ _ (T52.setTop (mkF m 4 #[.val (.ref a1), .val (.int (1 : Int32)), .unset, .unset] [(.ref df)]))
  obtain ⟨cf, Af, -, Sf, Mf, -, -⟩ := Vf
  refine own_st (fun t k => X52.arraylength hx (by rw [e52]; exact Af.1) (State.isArrayOf_alike hZ.alike Af.2.1) (g := (mkF m 4 #[.val (.ref a1), .val (.int (1 : Int32)), .unset, .unset] [(.ref df)])) rfl rfl (hb hby own_d15_4) t k) ?_
  rw [len_of Sf Mf]
  show own_G _ _ _ _ _ _ _ (T52.setTop (mkF m 5 #[.val (.ref a1), .val (.int (1 : Int32)), .unset, .unset] [(.int 0)]))
  refine own_st (fun t k => XS.istoreN X52.here hx rfl (hb hby own_d15_5) rfl (l' := #[.val (.ref a1), .val (.int (1 : Int32)), .val (.int (0 : Int32)), .unset]) rfl k) ?_
  show own_G _ _ _ _ _ _ _ (T52.setTop (mkF m 6 #[.val (.ref a1), .val (.int (1 : Int32)), .val (.int (0 : Int32)), .unset] []))
  refine own_st (fun t k => XS.iloadN X52.here hx rfl (hb hby own_d15_6) rfl k) ?_
  show own_G _ _ _ _ _ _ _ (T52.setTop (mkF m 7 #[.val (.ref a1), .val (.int (1 : Int32)), .val (.int (0 : Int32)), .unset] [(.int (0 : Int32))]))
  refine own_st (fun t k => XS.ifNo X52.here hx rfl (hb hby own_d15_7) rfl ((if0 _ _).trans (flt (by decide)).2.2.1) k) ?_
  show own_G _ _ _ _ _ _ _ (T52.setTop (mkF m 10 #[.val (.ref a1), .val (.int (1 : Int32)), .val (.int (0 : Int32)), .unset] []))
  refine own_st (fun t k => XS.aloadN X52.here hx rfl (hb hby own_d15_10) rfl rfl k) ?_
  show own_G _ _ _ _ _ _ _ (T52.setTop (mkF m 11 #[.val (.ref a1), .val (.int (1 : Int32)), .val (.int (0 : Int32)), .unset] [(.ref a1)]))
  obtain ⟨T53, X53, e53, st53⟩ := getF X52 hx hZ hown (host := "") (Or.inl (hw _ (List.mem_of_getElem? (i := 24) rfl))) Via.refl e52 Fe (g := (mkF m 11 #[.val (.ref a1), .val (.int (1 : Int32)), .val (.int (0 : Int32)), .unset] [(.ref a1)])) rfl rfl (hb hby own_d15_11)
  refine own_st (fun t k => st53 t k) ?_
  show own_G _ _ _ _ _ _ _ (T53.setTop (mkF m 14 #[.val (.ref a1), .val (.int (1 : Int32)), .val (.int (0 : Int32)), .unset] [(.ref df)]))
  obtain ⟨T54, X54, e54, st54⟩ := getS2 X53 hx hZ hown (host := "") (Or.inl (hw _ (List.mem_of_getElem? (i := 23) rfl))) Via.refl e53 Sd (g := (mkF m 14 #[.val (.ref a1), .val (.int (1 : Int32)), .val (.int (0 : Int32)), .unset] [(.ref df)])) rfl (hb hby own_d15_14)
  refine own_st (fun t k => st54 t k) ?_
  show own_G _ _ _ _ _ _ _ (T54.setTop (mkF m 17 #[.val (.ref a1), .val (.int (1 : Int32)), .val (.int (0 : Int32)), .unset] [(.ref df), (.ref df)]))
  refine own_st (fun t k => Jvm.RoadKit.acmp (g := (mkF m 17 #[.val (.ref a1), .val (.int (1 : Int32)), .val (.int (0 : Int32)), .unset] [(.ref df), (.ref df)])) X54 hx rfl rfl rfl (pc0 := 17) (pc' := 45) (same := true) rfl (hb hby own_d15_17) rfl (decide_eq_true (congrArg Value.ref rfl)) (by decide) (by decide) k) ?_
  show own_G _ _ _ _ _ _ _ (T54.setTop (mkF m 45 #[.val (.ref a1), .val (.int (1 : Int32)), .val (.int (0 : Int32)), .unset] []))
  refine own_st (fun t k => XS.aloadN X54.here hx rfl (hb hby own_d15_45) rfl rfl k) ?_
  show own_G _ _ _ _ _ _ _ (T54.setTop (mkF m 46 #[.val (.ref a1), .val (.int (1 : Int32)), .val (.int (0 : Int32)), .unset] [(.ref a1)]))
  refine own_st (fun t k => XS.bipush X54.here hx rfl (hb hby own_d15_46) k) ?_
  show own_G _ _ _ _ _ _ _ (T54.setTop (mkF m 48 #[.val (.ref a1), .val (.int (1 : Int32)), .val (.int (0 : Int32)), .unset] [(.int (10 : Int32)), (.ref a1)]))
  refine own_st (fun t k => XS.iloadN X54.here hx rfl (hb hby own_d15_48) rfl k) ?_
  show own_G _ _ _ _ _ _ _ (T54.setTop (mkF m 49 #[.val (.ref a1), .val (.int (1 : Int32)), .val (.int (0 : Int32)), .unset] [(.int (1 : Int32)), (.int (10 : Int32)), (.ref a1)]))
  obtain ⟨_, _, ⟨T55, L55, k55, n55⟩, -, X55, ⟨Lc55, hQ55, l55, y55, z55⟩, st55⟩ := Jvm.LawKit.callS X54 hx (y := (⟨"java/lang/Math", "max", "(II)I"⟩ : MethodName)) hown (mvT hZ (hw _ (List.mem_of_getElem? (i := 87) rfl))) (mvT hZ (hw _ (List.mem_of_getElem? (i := 88) rfl))) (mvT hZ (hw _ (List.mem_of_getElem? (i := 89) rfl))) (mvT hZ (hw _ (List.mem_of_getElem? (i := 90) rfl))) (by decide) (backOf (W := 1) (own_rm14 l Z a0 hw [] 10 1 h0 n0 Z0) hZ (hw _ (List.mem_of_getElem? (i := 90) rfl)) (hw _ (List.mem_of_getElem? (i := 89) rfl)) (by decide) (by decide)) (g := (mkF m 49 #[.val (.ref a1), .val (.int (1 : Int32)), .val (.int (0 : Int32)), .unset] [(.int (1 : Int32)), (.int (10 : Int32)), (.ref a1)])) rfl (by rw [hml]; rfl) (argsL := [(.int (10 : Int32)), (.int (1 : Int32))]) (rest := [(.ref a1)]) (lenOf own_pd10 rfl) rfl (by show 2 * 0 + _ ≤ _; exact Nat.le_of_eq rfl) (hb hby own_d15_49) (fun _ _ => ⟨rfl, e54, (by decide : 0 + 0 ≤ _), (by decide : 0 + 0 ≤ _)⟩)
  dsimp only [Pt.U, Pt.locs, Pt.cells, Pt.slots] at X55 l55 y55 z55 st55 hQ55
  subst l55 y55 z55
  obtain ⟨rfl, N55q, e55⟩ := hQ55
  have N55 := Fr.app N0 N55q
  refine own_st (fun t k => st55 t k) ?_
  show own_G _ _ _ _ _ _ _ (T55.setTop (mkF m 52 #[.val (.ref a1), .val (.int (1 : Int32)), .val (.int (0 : Int32)), .unset] [(.int (own_max 10 1)), (.ref a1)]))
  rw [show own_max 10 1 = 10 from by decide]
  show own_G _ _ _ _ _ _ _ (T55.setTop (mkF m 52 #[.val (.ref a1), .val (.int (1 : Int32)), .val (.int (0 : Int32)), .unset] [(.int (10 : Int32)), (.ref a1)]))
  obtain ⟨T56, h56, k56, X56, e56, E56, A56, O56, st56⟩ := newR X55 hx hZ hown (hw _ (List.mem_of_getElem? (i := 91) rfl)) (hw _ (List.mem_of_getElem? (i := 92) rfl)) e55 (g := (mkF m 52 #[.val (.ref a1), .val (.int (1 : Int32)), .val (.int (0 : Int32)), .unset] [(.int (10 : Int32)), (.ref a1)])) rfl (hb hby own_d15_52) rfl (by decide) (cap := 10) (by decide) (by decide) (by decide) (by decide)
  obtain ⟨d1, g56⟩ : ∃ z, z = h0.size := ⟨_, rfl⟩
  rw [← g56] at A56 st56
  refine own_st (fun t k => st56 t k) ?_
  show own_G _ _ _ _ _ _ _ (T56.setTop (mkF m 55 #[.val (.ref a1), .val (.int (1 : Int32)), .val (.int (0 : Int32)), .unset] [(.ref d1), (.ref a1)]))
  have ge_d1 : n0 ≤ d1 := Nat.le_trans Z0 (Nat.le_of_eq g56.symm)
  have sz_d1 : h0.size ≤ d1 := Nat.le_trans (Keep.refl h0 [a1]).1 (Nat.le_of_eq g56.symm)
  have ne_a1_d1 : a1 ≠ d1 := Nat.ne_of_lt (Nat.lt_of_lt_of_le E1.lt (Nat.le_of_eq g56.symm))
  have E_57 := E1.ext E56
  have fm_58 := Fm.ext E56
  have fs_59 := Fs.ext E56
  have fe_60 := Fe.ext E56
  have Zz61 : n0 ≤ h56.size := Nat.le_trans Z0 E56.1
  have Kk62 := (Keep.refl h0 [a1]).ext E56
  have V_0 : Arv Z h56 d1 k56 (.object "java/lang/Object") 10 [.null, .null, .null, .null, .null, .null, .null, .null, .null, .null] .null := (Arv.new A56 (by decide)).pad (pad_rep [] .null 10)
  refine own_st (fun t k => XS.dupX1 X56.here hx rfl (hb hby own_d15_55) rfl rfl rfl k) ?_
  show own_G _ _ _ _ _ _ _ (T56.setTop (mkF m 56 #[.val (.ref a1), .val (.int (1 : Int32)), .val (.int (0 : Int32)), .unset] [(.ref d1), (.ref a1), (.ref d1)]))
  obtain ⟨T63, h63, X63, e63, W63, st63⟩ := putF X56 hx hZ hown (host := "") (Or.inl (hw _ (List.mem_of_getElem? (i := 24) rfl))) Via.refl e56 fe_60 E_57 (Or.inl (hw _ (List.mem_of_getElem? (i := 25) rfl))) (hw _ (List.mem_of_getElem? (i := 1) rfl)) (ty := (.array (.object "java/lang/Object"))) (by decide) rfl rfl (g := (mkF m 56 #[.val (.ref a1), .val (.int (1 : Int32)), .val (.int (0 : Int32)), .unset] [(.ref d1), (.ref a1), (.ref d1)])) rfl rfl (hb hby own_d15_56)
  have N63 := Fr.snoc X63 N55 g1
  refine own_st (fun t k => st63 t k) ?_
  show own_G _ _ _ _ _ _ _ (T63.setTop (mkF m 59 #[.val (.ref a1), .val (.int (1 : Int32)), .val (.int (0 : Int32)), .unset] [(.ref d1)]))
  have E_64 := E_57.wr W63
  have fm_65 := fm_58.other W63 (Or.inr (slot_ne (Or.inl (hw _ (List.mem_of_getElem? (i := 22) rfl))) (Or.inl (hw _ (List.mem_of_getElem? (i := 25) rfl))) (by decide) (t := .int) (t' := (.array (.object "java/lang/Object"))) (by decide) (by decide)))
  have fs_66 := fs_59.other W63 (Or.inr (slot_ne (Or.inl (hw _ (List.mem_of_getElem? (i := 57) rfl))) (Or.inl (hw _ (List.mem_of_getElem? (i := 25) rfl))) (by decide) (t := .int) (t' := (.array (.object "java/lang/Object"))) (by decide) (by decide)))
  have fe_67 := fe_60.same W63
  have V_68 := V_0.other W63 (Ne.symm ne_a1_d1)
  have Zz69 : n0 ≤ h63.size := Nat.le_trans Zz61 (Keep.of_wr W63).1
  have Kk70 := Kk62.wr W63 (Or.inl (List.mem_of_getElem? (i := 0) rfl))
  subst e63
  exact own_retA (ft := (.array (.object "java/lang/Object"))) (w := (.ref d1)) rfl rfl X63 hx Bd.returns (BodyLoose.notSynchronized Bd) (hb hby own_d15_59) (by decide) (by decide) ⟨d1, k56, rfl, N63, Kk70, E_64, fm_65, fs_66, fe_67, V_68, O56, sz_d1, ge_d1⟩
theorem own_d16_0 : decode jdk_38_method_7_code 0 = .ok (.aload_n 0, 1) := by decide +kernel
theorem own_d16_1 : decode jdk_38_method_7_code 1 = .ok (.aload_n 0, 1) := by decide +kernel
theorem own_d16_2 : decode jdk_38_method_7_code 2 = .ok (.getfield 48, 3) := by decide +kernel
theorem own_d16_5 : decode jdk_38_method_7_code 5 = .ok (.iconst 1, 1) := by decide +kernel
theorem own_d16_6 : decode jdk_38_method_7_code 6 = .ok (.iadd, 1) := by decide +kernel
theorem own_d16_7 : decode jdk_38_method_7_code 7 = .ok (.invokevirtual 69, 3) := by decide +kernel
theorem own_d16_10 : decode jdk_38_method_7_code 10 = .ok (.areturn, 1) := by decide +kernel
theorem own_ef16 (m : MethodId) (a1 : Addr) : entryFrame m #[(.ref a1)] 1 = mkF m 0 #[.val (.ref a1)] [] := by first | (simp [entryFrame, mkF, argsToLocals, Value.category]; done) | rfl
set_option maxRecDepth 65536 in
set_option maxHeartbeats 40000000 in
theorem own_rm16 (l : Launch) (Z : State) (a0 : Array Value) (hw : ∀ d ∈ tables_1, d.before a0 Z = true) (ws : List Jvm.Cond) (a1 : Addr) (mc : Int32) (df : Addr) (kf : ClassId) (h0 : Heap) (n0 : Nat) (Z0 : n0 ≤ h0.size) (E1 : Exa Z h0 a1 "java/util/ArrayList") (Fm : Fld Z h0 a1 "java/util/AbstractList" "modCount" "I" (.int mc)) (Fs : Fld Z h0 a1 "java/util/ArrayList" "size" "I" (.int 0)) (Fe : Fld Z h0 a1 "java/util/ArrayList" "elementData" "[Ljava/lang/Object;" (.ref df)) (g1 : n0 ≤ a1) (Sd : Sta Z h0 "java/util/ArrayList" "DEFAULTCAPACITY_EMPTY_ELEMENTDATA" "[Ljava/lang/Object;" (.ref df)) (Vf : Arv Z h0 df kf (.object "java/lang/Object") 0 [] .null) :
    MetFree l (⟨"java/util/ArrayList", "grow", "()[Ljava/lang/Object;"⟩ : MethodName) (head1 (Jvm.Cond.code (⟨"java/util/ArrayList", "grow", "()[Ljava/lang/Object;"⟩ : MethodName) jdk_38_method_7_code 1 (some (.array (.object "java/lang/Object"))) :: ws) ({ frames := 2, cells := 1, slots := 10, locals := 29 } : Room)) (fun a U => a = #[(.ref a1)] ∧ Z.Warmed39 U.vm ∧ U.heap = h0) (fun _ _ _ _ _ => True) (fun _ U o U' => ∃ v L, o = .returned v ∧ own_Q15 Z a1 mc h0 n0 v U'.heap L ∧ FrameEnd U o U' L ({ frames := 2, cells := 1, slots := 10, locals := 29 } : Room).cells ({ frames := 2, cells := 1, slots := 10, locals := 29 } : Room).slots) := by
  refine MetFree.of_bodySF (plainFor_of_name own_pn4) hisR ?_
  intro p e s m args below meth c s₁ Bd hml0 hP hK
  obtain ⟨rfl, hZ, hh⟩ := hP
  have hx := Bd.exec
  have hby := Bd.bytes
  have hml : c.maxLocals = 1 := hml0
  have hown : s.vm.findClass "java/util/ArrayList" = some m.cls := findClass_of_methodNamed Bd.named
  have hnm := (name_of_methodNamed Bd.named Bd.method).1
  have X0 : Stand p l e ({ frames := 2, cells := 1, slots := 10, locals := 29 } : Room) s m #[(.ref a1)] below meth c s₁ [] 0 0 := Stand.of_body Bd
  have e0 : s₁.heap = h0 := by rw [← hh, Bd.state]; rfl
  have N0 := Fr.nil n0
  refine own_in (Q := own_Q15 Z a1 mc h0 n0) ?_
  rw [own_ef16]
  show own_G _ _ _ _ _ _ _ (s₁.setTop (mkF m 0 #[.val (.ref a1)] []))
  refine own_st (fun t k => XS.aloadN X0.here hx rfl (hb hby own_d16_0) rfl rfl k) ?_
  show own_G _ _ _ _ _ _ _ (s₁.setTop (mkF m 1 #[.val (.ref a1)] [(.ref a1)]))
  refine own_st (fun t k => XS.aloadN X0.here hx rfl (hb hby own_d16_1) rfl rfl k) ?_
  show own_G _ _ _ _ _ _ _ (s₁.setTop (mkF m 2 #[.val (.ref a1)] [(.ref a1), (.ref a1)]))
  obtain ⟨T71, X71, e71, st71⟩ := getF X0 hx hZ hown (host := "") (Or.inl (hw _ (List.mem_of_getElem? (i := 56) rfl))) Via.refl e0 Fs (g := (mkF m 2 #[.val (.ref a1)] [(.ref a1), (.ref a1)])) rfl rfl (hb hby own_d16_2)
  refine own_st (fun t k => st71 t k) ?_
  show own_G _ _ _ _ _ _ _ (T71.setTop (mkF m 5 #[.val (.ref a1)] [(.int (0 : Int32)), (.ref a1)]))
  refine own_st (fun t k => XS.iconst X71.here hx rfl (hb hby own_d16_5) k) ?_
  show own_G _ _ _ _ _ _ _ (T71.setTop (mkF m 6 #[.val (.ref a1)] [(.int (1 : Int32)), (.int (0 : Int32)), (.ref a1)]))
  refine own_st (fun t k => XS.iadd X71.here hx rfl (hb hby own_d16_6) rfl k) ?_
  show own_G _ _ _ _ _ _ _ (T71.setTop (mkF m 7 #[.val (.ref a1)] [(.int ((0 : Int32) + (1 : Int32))), (.ref a1)]))
  rw [show (0 : Int32) + 1 = 1 from by decide]
  show own_G _ _ _ _ _ _ _ (T71.setTop (mkF m 7 #[.val (.ref a1)] [(.int (1 : Int32)), (.ref a1)]))
  obtain ⟨cq72, kq72, q72a, q72b, q72c⟩ := isOf hZ e71 E1
  obtain ⟨cp72, qp72, qp72'⟩ := (E1).cell
  obtain ⟨_, _, ⟨T72, L72, k72, n72⟩, -, X72, ⟨Lc72, hQ72, l72, y72, z72⟩, st72⟩ := X71.privateBack hx (y := (⟨"java/util/ArrayList", "grow", "(I)[Ljava/lang/Object;"⟩ : MethodName)) hown (mvT hZ (hw _ (List.mem_of_getElem? (i := 82) rfl))) (mvT hZ (hw _ (List.mem_of_getElem? (i := 83) rfl))) (mvT hZ (hw _ (List.mem_of_getElem? (i := 85) rfl))) (Cond.privateMethod_at (mvP hZ (hw _ (List.mem_of_getElem? (i := 84) rfl)) (args := #[]))) (mvT hZ (hw _ (List.mem_of_getElem? (i := 86) rfl))) (by decide) (backOf (W := 0) (own_rm15 l Z a0 hw [] a1 mc df kf h0 n0 Z0 E1 Fm Fs Fe g1 Sd Vf) hZ (hw _ (List.mem_of_getElem? (i := 86) rfl)) (hw _ (List.mem_of_getElem? (i := 2) rfl)) (by decide) (by decide)) (g := (mkF m 7 #[.val (.ref a1)] [(.int (1 : Int32)), (.ref a1)])) rfl (by rw [hml]; rfl) (Steps.refl _) (a := a1) (by rw [e71]; exact qp72) qp72' (argsL := [(.int (1 : Int32))]) (rest := []) (lenOf own_pd9 rfl) rfl (by show 2 * 0 + _ ≤ _; exact Nat.le_of_eq rfl) (hb hby own_d16_7) (fun _ _ => ⟨rfl, e71, (by decide : 0 + 1 ≤ _), (by decide : 0 + 10 ≤ _)⟩)
  dsimp only [Pt.U, Pt.locs, Pt.cells, Pt.slots] at X72 l72 y72 z72 st72 hQ72
  subst l72 y72 z72
  obtain ⟨d1, k1, rfl, N72q, K72, Ea72, Fa72, Fb72, Fc72, Vd72, Ov72, s172, s272⟩ := hQ72
  have N72 := Fr.app N0 N72q
  refine own_st (fun t k => st72.trans k) ?_
  show own_G _ _ _ _ _ _ _ (T72.setTop (mkF m 10 #[.val (.ref a1)] [(.ref d1)]))
  exact own_retA (ft := (.array (.object "java/lang/Object"))) (w := (.ref d1)) rfl rfl X72 hx Bd.returns (BodyLoose.notSynchronized Bd) (hb hby own_d16_10) (by decide) (by decide) ⟨d1, k1, rfl, N72, K72, Ea72, Fa72, Fb72, Fc72, Vd72, Ov72, s172, s272⟩
def own_Q17 (Z : State) (a1 x1 : Addr) (mc : Int32) (h0 : Heap) (n0 : Nat) (v : Option Value) (h : Heap) (L : List Loc) : Prop := ∃ (d : Addr) (kd : ClassId), v = none ∧ Fr n0 L ∧ Keep h0 h [a1] ∧ Exa Z h a1 "java/util/ArrayList" ∧ Fld Z h a1 "java/util/AbstractList" "modCount" "I" (.int mc) ∧ Fld Z h a1 "java/util/ArrayList" "size" "I" (.int 1) ∧ Fld Z h a1 "java/util/ArrayList" "elementData" "[Ljava/lang/Object;" (.ref d) ∧ Arv Z h d kd (.object "java/lang/Object") 10 [.ref x1, .null, .null, .null, .null, .null, .null, .null, .null, .null] .null ∧ Ovr Z kd "java/lang/Object" ∧ h0.size ≤ d ∧ n0 ≤ d
theorem own_d17_0 : decode jdk_38_method_24_code 0 = .ok (.iload_n 3, 1) := by decide +kernel
theorem own_d17_1 : decode jdk_38_method_24_code 1 = .ok (.aload_n 2, 1) := by decide +kernel
theorem own_d17_2 : decode jdk_38_method_24_code 2 = .ok (.arraylength, 1) := by decide +kernel
theorem own_d17_3 : decode jdk_38_method_24_code 3 = .ok (.if_icmp .ne 8, 3) := by decide +kernel
theorem own_d17_6 : decode jdk_38_method_24_code 6 = .ok (.aload_n 0, 1) := by decide +kernel
theorem own_d17_7 : decode jdk_38_method_24_code 7 = .ok (.invokevirtual 129, 3) := by decide +kernel
theorem own_d17_10 : decode jdk_38_method_24_code 10 = .ok (.astore_n 2, 1) := by decide +kernel
theorem own_d17_11 : decode jdk_38_method_24_code 11 = .ok (.aload_n 2, 1) := by decide +kernel
theorem own_d17_12 : decode jdk_38_method_24_code 12 = .ok (.iload_n 3, 1) := by decide +kernel
theorem own_d17_13 : decode jdk_38_method_24_code 13 = .ok (.aload_n 1, 1) := by decide +kernel
theorem own_d17_14 : decode jdk_38_method_24_code 14 = .ok (.aastore, 1) := by decide +kernel
theorem own_d17_15 : decode jdk_38_method_24_code 15 = .ok (.aload_n 0, 1) := by decide +kernel
theorem own_d17_16 : decode jdk_38_method_24_code 16 = .ok (.iload_n 3, 1) := by decide +kernel
theorem own_d17_17 : decode jdk_38_method_24_code 17 = .ok (.iconst 1, 1) := by decide +kernel
theorem own_d17_18 : decode jdk_38_method_24_code 18 = .ok (.iadd, 1) := by decide +kernel
theorem own_d17_19 : decode jdk_38_method_24_code 19 = .ok (.putfield 48, 3) := by decide +kernel
theorem own_d17_22 : decode jdk_38_method_24_code 22 = .ok (.return_, 1) := by decide +kernel
theorem own_ef17 (m : MethodId) (a1 : Addr) (x1 : Addr) (df : Addr) : entryFrame m #[(.ref a1), (.ref x1), (.ref df), (.int (0 : Int32))] 4 = mkF m 0 #[.val (.ref a1), .val (.ref x1), .val (.ref df), .val (.int (0 : Int32))] [] := by first | (simp [entryFrame, mkF, argsToLocals, Value.category]; done) | rfl
set_option maxRecDepth 65536 in
set_option maxHeartbeats 40000000 in
theorem own_rm17 (l : Launch) (Z : State) (a0 : Array Value) (hw : ∀ d ∈ tables_1, d.before a0 Z = true) (ws : List Jvm.Cond) (a1 x1 : Addr) (mc : Int32) (df : Addr) (kf : ClassId) (h0 : Heap) (n0 : Nat) (Z0 : n0 ≤ h0.size) (E1 : Exa Z h0 a1 "java/util/ArrayList") (Fm : Fld Z h0 a1 "java/util/AbstractList" "modCount" "I" (.int mc)) (Fs : Fld Z h0 a1 "java/util/ArrayList" "size" "I" (.int 0)) (Fe : Fld Z h0 a1 "java/util/ArrayList" "elementData" "[Ljava/lang/Object;" (.ref df)) (g1 : n0 ≤ a1) (Sd : Sta Z h0 "java/util/ArrayList" "DEFAULTCAPACITY_EMPTY_ELEMENTDATA" "[Ljava/lang/Object;" (.ref df)) (Vf : Arv Z h0 df kf (.object "java/lang/Object") 0 [] .null) (Ex : Exa Z h0 x1 "java/lang/Integer") :
    MetFree l (⟨"java/util/ArrayList", "add", "(Ljava/lang/Object;[Ljava/lang/Object;I)V"⟩ : MethodName) (head1 (Jvm.Cond.code (⟨"java/util/ArrayList", "add", "(Ljava/lang/Object;[Ljava/lang/Object;I)V"⟩ : MethodName) jdk_38_method_24_code 4 none :: ws) ({ frames := 3, cells := 1, slots := 10, locals := 41 } : Room)) (fun a U => a = #[(.ref a1), (.ref x1), (.ref df), (.int (0 : Int32))] ∧ Z.Warmed39 U.vm ∧ U.heap = h0) (fun _ _ _ _ _ => True) (fun _ U o U' => ∃ v L, o = .returned v ∧ own_Q17 Z a1 x1 mc h0 n0 v U'.heap L ∧ FrameEnd U o U' L ({ frames := 3, cells := 1, slots := 10, locals := 41 } : Room).cells ({ frames := 3, cells := 1, slots := 10, locals := 41 } : Room).slots) := by
  refine MetFree.of_bodySF (plainFor_of_name own_pn4) hisR ?_
  intro p e s m args below meth c s₁ Bd hml0 hP hK
  obtain ⟨rfl, hZ, hh⟩ := hP
  have hx := Bd.exec
  have hby := Bd.bytes
  have hml : c.maxLocals = 4 := hml0
  have hown : s.vm.findClass "java/util/ArrayList" = some m.cls := findClass_of_methodNamed Bd.named
  have hnm := (name_of_methodNamed Bd.named Bd.method).1
  have X0 : Stand p l e ({ frames := 3, cells := 1, slots := 10, locals := 41 } : Room) s m #[(.ref a1), (.ref x1), (.ref df), (.int (0 : Int32))] below meth c s₁ [] 0 0 := Stand.of_body Bd
  have e0 : s₁.heap = h0 := by rw [← hh, Bd.state]; rfl
  have N0 := Fr.nil n0
  refine own_in (Q := own_Q17 Z a1 x1 mc h0 n0) ?_
  rw [own_ef17]
  show own_G _ _ _ _ _ _ _ (s₁.setTop (mkF m 0 #[.val (.ref a1), .val (.ref x1), .val (.ref df), .val (.int (0 : Int32))] []))
  refine own_st (fun t k => XS.iloadN X0.here hx rfl (hb hby own_d17_0) rfl k) ?_
  show own_G _ _ _ _ _ _ _ (s₁.setTop (mkF m 1 #[.val (.ref a1), .val (.ref x1), .val (.ref df), .val (.int (0 : Int32))] [(.int (0 : Int32))]))
  refine own_st (fun t k => XS.aloadN X0.here hx rfl (hb hby own_d17_1) rfl rfl k) ?_
  show own_G _ _ _ _ _ _ _ (s₁.setTop (mkF m 2 #[.val (.ref a1), .val (.ref x1), .val (.ref df), .val (.int (0 : Int32))] [(.ref df), (.int (0 : Int32))]))
  have Vf0 := Vf
  obtain ⟨cf, Af, -, Sf, Mf, -, -⟩ := Vf0
  refine own_st (fun t k => X0.arraylength hx (by rw [e0]; exact Af.1) (State.isArrayOf_alike hZ.alike Af.2.1) (g := (mkF m 2 #[.val (.ref a1), .val (.ref x1), .val (.ref df), .val (.int (0 : Int32))] [(.ref df), (.int (0 : Int32))])) rfl rfl (hb hby own_d17_2) t k) ?_
  rw [len_of Sf Mf]
  show own_G _ _ _ _ _ _ _ (s₁.setTop (mkF m 3 #[.val (.ref a1), .val (.ref x1), .val (.ref df), .val (.int (0 : Int32))] [(.int 0), (.int (0 : Int32))]))
  refine own_st (fun t k => XS.icmpNo X0.here hx rfl (hb hby own_d17_3) rfl (teq rfl).2 k) ?_
  show own_G _ _ _ _ _ _ _ (s₁.setTop (mkF m 6 #[.val (.ref a1), .val (.ref x1), .val (.ref df), .val (.int (0 : Int32))] []))
  refine own_st (fun t k => XS.aloadN X0.here hx rfl (hb hby own_d17_6) rfl rfl k) ?_
  show own_G _ _ _ _ _ _ _ (s₁.setTop (mkF m 7 #[.val (.ref a1), .val (.ref x1), .val (.ref df), .val (.int (0 : Int32))] [(.ref a1)]))
  obtain ⟨cq73, kq73, q73a, q73b, q73c⟩ := isOf hZ e0 E1
  obtain ⟨cp73, qp73, qp73'⟩ := (E1).cell
  obtain ⟨_, _, ⟨T73, L73, k73, n73⟩, -, X73, ⟨Lc73, hQ73, l73, y73, z73⟩, st73⟩ := X0.privateBack hx (y := (⟨"java/util/ArrayList", "grow", "()[Ljava/lang/Object;"⟩ : MethodName)) hown (mvT hZ (hw _ (List.mem_of_getElem? (i := 77) rfl))) (mvT hZ (hw _ (List.mem_of_getElem? (i := 78) rfl))) (mvT hZ (hw _ (List.mem_of_getElem? (i := 80) rfl))) (Cond.privateMethod_at (mvP hZ (hw _ (List.mem_of_getElem? (i := 79) rfl)) (args := #[]))) (mvT hZ (hw _ (List.mem_of_getElem? (i := 81) rfl))) (by decide) (backOf (W := 0) (own_rm16 l Z a0 hw [] a1 mc df kf h0 n0 Z0 E1 Fm Fs Fe g1 Sd Vf) hZ (hw _ (List.mem_of_getElem? (i := 81) rfl)) (hw _ (List.mem_of_getElem? (i := 2) rfl)) (by decide) (by decide)) (g := (mkF m 7 #[.val (.ref a1), .val (.ref x1), .val (.ref df), .val (.int (0 : Int32))] [(.ref a1)])) rfl (by rw [hml]; rfl) (Steps.refl _) (a := a1) (by rw [e0]; exact qp73) qp73' (argsL := []) (rest := []) (lenOf own_pd8 rfl) rfl (by show 2 * 0 + _ ≤ _; exact Nat.le_of_eq rfl) (hb hby own_d17_7) (fun _ _ => ⟨rfl, e0, (by decide : 0 + 1 ≤ _), (by decide : 0 + 10 ≤ _)⟩)
  dsimp only [Pt.U, Pt.locs, Pt.cells, Pt.slots] at X73 l73 y73 z73 st73 hQ73
  subst l73 y73 z73
  obtain ⟨d1, k1, rfl, N73q, K73, Ea73, Fa73, Fb73, Fc73, Vd73, Ov73, s173, s273⟩ := hQ73
  have N73 := Fr.app N0 N73q
  refine own_st (fun t k => st73.trans k) ?_
  show own_G _ _ _ _ _ _ _ (T73.setTop (mkF m 10 #[.val (.ref a1), .val (.ref x1), .val (.ref df), .val (.int (0 : Int32))] [(.ref d1)]))
  have X_74 := Ex.keep K73
  have Zz75 : n0 ≤ _ := Nat.le_trans Z0 K73.1
  have Kk76 := (Keep.refl h0 [a1]).trans K73 (allS (Or.inl (List.mem_of_getElem? (i := 0) rfl)) all0)
  have ne_a1_d1 : a1 ≠ d1 := Nat.ne_of_lt (Nat.lt_of_lt_of_le E1.lt s173)
  refine own_st (fun t k => XS.astoreN X73.here hx rfl (hb hby own_d17_10) rfl rfl (l' := #[.val (.ref a1), .val (.ref x1), .val (.ref d1), .val (.int (0 : Int32))]) rfl k) ?_
  show own_G _ _ _ _ _ _ _ (T73.setTop (mkF m 11 #[.val (.ref a1), .val (.ref x1), .val (.ref d1), .val (.int (0 : Int32))] []))
  refine own_st (fun t k => XS.aloadN X73.here hx rfl (hb hby own_d17_11) rfl rfl k) ?_
  show own_G _ _ _ _ _ _ _ (T73.setTop (mkF m 12 #[.val (.ref a1), .val (.ref x1), .val (.ref d1), .val (.int (0 : Int32))] [(.ref d1)]))
  refine own_st (fun t k => XS.iloadN X73.here hx rfl (hb hby own_d17_12) rfl k) ?_
  show own_G _ _ _ _ _ _ _ (T73.setTop (mkF m 13 #[.val (.ref a1), .val (.ref x1), .val (.ref d1), .val (.int (0 : Int32))] [(.int (0 : Int32)), (.ref d1)]))
  refine own_st (fun t k => XS.aloadN X73.here hx rfl (hb hby own_d17_13) rfl rfl k) ?_
  show own_G _ _ _ _ _ _ _ (T73.setTop (mkF m 14 #[.val (.ref a1), .val (.ref x1), .val (.ref d1), .val (.int (0 : Int32))] [(.ref x1), (.int (0 : Int32)), (.ref d1)]))
  obtain ⟨cl77, Ar77, q77, S77, M77, H77, G77⟩ := Vd73
  have hin77 : ¬ ((0 : Int32) < 0 ∨ cl77.slots.size ≤ ((0 : Int32)).toNatClampNeg) := inb_of S77 ⟨by decide, by decide⟩
  obtain ⟨T78, h78, X78, e78, W78, st78⟩ := Jvm.RoadKit.stR X73 hx hZ rfl Ar77 (j := (0 : Int32)) hin77 rfl (Sto.ofV Ar77 q77 Ov73 (Ins.of_exa X_74 (hw _ (List.mem_of_getElem? (i := 93) rfl)))) (g := (mkF m 14 #[.val (.ref a1), .val (.ref x1), .val (.ref d1), .val (.int (0 : Int32))] [(.ref x1), (.int (0 : Int32)), (.ref d1)])) rfl rfl (hb hby own_d17_14)
  have N78 := Fr.snoc X78 N73 s273
  refine own_st (fun t k => st78 t k) ?_
  show own_G _ _ _ _ _ _ _ (T78.setTop (mkF m 15 #[.val (.ref a1), .val (.ref x1), .val (.ref d1), .val (.int (0 : Int32))] []))
  have V_78 : Arv Z h78 d1 k1 (.object "java/lang/Object") 10 [.ref x1, .null, .null, .null, .null, .null, .null, .null, .null, .null] .null := Arv.set Ar77 q77 S77 M77 H77 G77 rfl W78 0 rfl (Nat.le_of_ble_eq_true rfl)
  have X_79 := X_74.wr W78
  have E_80 := Ea73.wr W78
  have fm_81 := Fa73.other W78 (Or.inl ne_a1_d1)
  have fs_82 := Fb73.other W78 (Or.inl ne_a1_d1)
  have fe_83 := Fc73.other W78 (Or.inl ne_a1_d1)
  have Zz84 : n0 ≤ h78.size := Nat.le_trans Zz75 (Keep.of_wr W78).1
  have Kk85 := Kk76.wr W78 (Or.inr s173)
  refine own_st (fun t k => XS.aloadN X78.here hx rfl (hb hby own_d17_15) rfl rfl k) ?_
  show own_G _ _ _ _ _ _ _ (T78.setTop (mkF m 16 #[.val (.ref a1), .val (.ref x1), .val (.ref d1), .val (.int (0 : Int32))] [(.ref a1)]))
  refine own_st (fun t k => XS.iloadN X78.here hx rfl (hb hby own_d17_16) rfl k) ?_
  show own_G _ _ _ _ _ _ _ (T78.setTop (mkF m 17 #[.val (.ref a1), .val (.ref x1), .val (.ref d1), .val (.int (0 : Int32))] [(.int (0 : Int32)), (.ref a1)]))
  refine own_st (fun t k => XS.iconst X78.here hx rfl (hb hby own_d17_17) k) ?_
  show own_G _ _ _ _ _ _ _ (T78.setTop (mkF m 18 #[.val (.ref a1), .val (.ref x1), .val (.ref d1), .val (.int (0 : Int32))] [(.int (1 : Int32)), (.int (0 : Int32)), (.ref a1)]))
  refine own_st (fun t k => XS.iadd X78.here hx rfl (hb hby own_d17_18) rfl k) ?_
  show own_G _ _ _ _ _ _ _ (T78.setTop (mkF m 19 #[.val (.ref a1), .val (.ref x1), .val (.ref d1), .val (.int (0 : Int32))] [(.int ((0 : Int32) + (1 : Int32))), (.ref a1)]))
  obtain ⟨T86, h86, X86, e86, W86, st86⟩ := putF X78 hx hZ hown (host := "") (Or.inl (hw _ (List.mem_of_getElem? (i := 56) rfl))) Via.refl e78 fs_82 E_80 (Or.inl (hw _ (List.mem_of_getElem? (i := 57) rfl))) (hw _ (List.mem_of_getElem? (i := 1) rfl)) (ty := .int) (by decide) rfl rfl (g := (mkF m 19 #[.val (.ref a1), .val (.ref x1), .val (.ref d1), .val (.int (0 : Int32))] [(.int ((0 : Int32) + (1 : Int32))), (.ref a1)])) rfl rfl (hb hby own_d17_19)
  have N86 := Fr.snoc X86 N78 g1
  refine own_st (fun t k => st86 t k) ?_
  show own_G _ _ _ _ _ _ _ (T86.setTop (mkF m 22 #[.val (.ref a1), .val (.ref x1), .val (.ref d1), .val (.int (0 : Int32))] []))
  have X_87 := X_79.wr W86
  have E_88 := E_80.wr W86
  have fm_89 := fm_81.other W86 (Or.inr (slot_ne (Or.inl (hw _ (List.mem_of_getElem? (i := 22) rfl))) (Or.inl (hw _ (List.mem_of_getElem? (i := 57) rfl))) (by decide) (t := .int) (t' := .int) (by decide) (by decide)))
  have fs_90 := fs_82.same W86
  have fe_91 := fe_83.other W86 (Or.inr (slot_ne (Or.inl (hw _ (List.mem_of_getElem? (i := 25) rfl))) (Or.inl (hw _ (List.mem_of_getElem? (i := 57) rfl))) (by decide) (t := (.array (.object "java/lang/Object"))) (t' := .int) (by decide) (by decide)))
  have V_92 := V_78.other W86 (Ne.symm ne_a1_d1)
  have Zz93 : n0 ≤ h86.size := Nat.le_trans Zz84 (Keep.of_wr W86).1
  have Kk94 := Kk85.wr W86 (Or.inl (List.mem_of_getElem? (i := 0) rfl))
  subst e86
  exact own_retV X86 hx Bd.returns (BodyLoose.notSynchronized Bd) (hb hby own_d17_22) (by decide) (by decide) ⟨d1, k1, rfl, N86, Kk94, E_88, fm_89, fs_90, fe_91, V_92, Ov73, s173, s273⟩
def own_Q18 (Z : State) (a1 x1 : Addr) (mc : Int32) (h0 : Heap) (n0 : Nat) (v : Option Value) (h : Heap) (L : List Loc) : Prop := ∃ (d : Addr) (kd : ClassId), v = some (.int 1) ∧ Fr n0 L ∧ Keep h0 h [a1] ∧ Exa Z h a1 "java/util/ArrayList" ∧ Fld Z h a1 "java/util/AbstractList" "modCount" "I" (.int (mc + 1)) ∧ Fld Z h a1 "java/util/ArrayList" "size" "I" (.int 1) ∧ Fld Z h a1 "java/util/ArrayList" "elementData" "[Ljava/lang/Object;" (.ref d) ∧ Arv Z h d kd (.object "java/lang/Object") 10 [.ref x1, .null, .null, .null, .null, .null, .null, .null, .null, .null] .null ∧ Ovr Z kd "java/lang/Object" ∧ h0.size ≤ d ∧ n0 ≤ d
theorem own_d18_0 : decode jdk_38_method_25_code 0 = .ok (.aload_n 0, 1) := by decide +kernel
theorem own_d18_1 : decode jdk_38_method_25_code 1 = .ok (.dup, 1) := by decide +kernel
theorem own_d18_2 : decode jdk_38_method_25_code 2 = .ok (.getfield 63, 3) := by decide +kernel
theorem own_d18_5 : decode jdk_38_method_25_code 5 = .ok (.iconst 1, 1) := by decide +kernel
theorem own_d18_6 : decode jdk_38_method_25_code 6 = .ok (.iadd, 1) := by decide +kernel
theorem own_d18_7 : decode jdk_38_method_25_code 7 = .ok (.putfield 63, 3) := by decide +kernel
theorem own_d18_10 : decode jdk_38_method_25_code 10 = .ok (.aload_n 0, 1) := by decide +kernel
theorem own_d18_11 : decode jdk_38_method_25_code 11 = .ok (.aload_n 1, 1) := by decide +kernel
theorem own_d18_12 : decode jdk_38_method_25_code 12 = .ok (.aload_n 0, 1) := by decide +kernel
theorem own_d18_13 : decode jdk_38_method_25_code 13 = .ok (.getfield 9, 3) := by decide +kernel
theorem own_d18_16 : decode jdk_38_method_25_code 16 = .ok (.aload_n 0, 1) := by decide +kernel
theorem own_d18_17 : decode jdk_38_method_25_code 17 = .ok (.getfield 48, 3) := by decide +kernel
theorem own_d18_20 : decode jdk_38_method_25_code 20 = .ok (.invokevirtual 131, 3) := by decide +kernel
theorem own_d18_23 : decode jdk_38_method_25_code 23 = .ok (.iconst 1, 1) := by decide +kernel
theorem own_d18_24 : decode jdk_38_method_25_code 24 = .ok (.ireturn, 1) := by decide +kernel
theorem own_ef18 (m : MethodId) (a1 : Addr) (x1 : Addr) : entryFrame m #[(.ref a1), (.ref x1)] 2 = mkF m 0 #[.val (.ref a1), .val (.ref x1)] [] := by first | (simp [entryFrame, mkF, argsToLocals, Value.category]; done) | rfl
set_option maxRecDepth 65536 in
set_option maxHeartbeats 40000000 in
theorem own_rm18 (l : Launch) (Z : State) (a0 : Array Value) (hw : ∀ d ∈ tables_1, d.before a0 Z = true) (ws : List Jvm.Cond) (a1 x1 : Addr) (mc : Int32) (df : Addr) (kf : ClassId) (h0 : Heap) (n0 : Nat) (Z0 : n0 ≤ h0.size) (E1 : Exa Z h0 a1 "java/util/ArrayList") (Fm : Fld Z h0 a1 "java/util/AbstractList" "modCount" "I" (.int mc)) (Fs : Fld Z h0 a1 "java/util/ArrayList" "size" "I" (.int 0)) (Fe : Fld Z h0 a1 "java/util/ArrayList" "elementData" "[Ljava/lang/Object;" (.ref df)) (g1 : n0 ≤ a1) (Sd : Sta Z h0 "java/util/ArrayList" "DEFAULTCAPACITY_EMPTY_ELEMENTDATA" "[Ljava/lang/Object;" (.ref df)) (Vf : Arv Z h0 df kf (.object "java/lang/Object") 0 [] .null) (Ex : Exa Z h0 x1 "java/lang/Integer") (nf : df ≠ a1) :
    MetFree l (⟨"java/util/ArrayList", "add", "(Ljava/lang/Object;)Z"⟩ : MethodName) (head1 (Jvm.Cond.code (⟨"java/util/ArrayList", "add", "(Ljava/lang/Object;)Z"⟩ : MethodName) jdk_38_method_25_code 2 (some .boolean) :: ws) ({ frames := 4, cells := 1, slots := 10, locals := 56 } : Room)) (fun a U => a = #[(.ref a1), (.ref x1)] ∧ Z.Warmed39 U.vm ∧ U.heap = h0) (fun _ _ _ _ _ => True) (fun _ U o U' => ∃ v L, o = .returned v ∧ own_Q18 Z a1 x1 mc h0 n0 v U'.heap L ∧ FrameEnd U o U' L ({ frames := 4, cells := 1, slots := 10, locals := 56 } : Room).cells ({ frames := 4, cells := 1, slots := 10, locals := 56 } : Room).slots) := by
  refine MetFree.of_bodySF (plainFor_of_name own_pn4) hisR ?_
  intro p e s m args below meth c s₁ Bd hml0 hP hK
  obtain ⟨rfl, hZ, hh⟩ := hP
  have hx := Bd.exec
  have hby := Bd.bytes
  have hml : c.maxLocals = 2 := hml0
  have hown : s.vm.findClass "java/util/ArrayList" = some m.cls := findClass_of_methodNamed Bd.named
  have hnm := (name_of_methodNamed Bd.named Bd.method).1
  have X0 : Stand p l e ({ frames := 4, cells := 1, slots := 10, locals := 56 } : Room) s m #[(.ref a1), (.ref x1)] below meth c s₁ [] 0 0 := Stand.of_body Bd
  have e0 : s₁.heap = h0 := by rw [← hh, Bd.state]; rfl
  have N0 := Fr.nil n0
  refine own_in (Q := own_Q18 Z a1 x1 mc h0 n0) ?_
  rw [own_ef18]
  show own_G _ _ _ _ _ _ _ (s₁.setTop (mkF m 0 #[.val (.ref a1), .val (.ref x1)] []))
  refine own_st (fun t k => XS.aloadN X0.here hx rfl (hb hby own_d18_0) rfl rfl k) ?_
  show own_G _ _ _ _ _ _ _ (s₁.setTop (mkF m 1 #[.val (.ref a1), .val (.ref x1)] [(.ref a1)]))
  refine own_st (fun t k => XS.dup X0.here hx rfl (hb hby own_d18_1) rfl rfl k) ?_
  show own_G _ _ _ _ _ _ _ (s₁.setTop (mkF m 2 #[.val (.ref a1), .val (.ref x1)] [(.ref a1), (.ref a1)]))
  obtain ⟨T95, X95, e95, st95⟩ := getF X0 hx hZ hown (host := "") (Or.inl (hw _ (List.mem_of_getElem? (i := 70) rfl))) (Via.of (hw _ (List.mem_of_getElem? (i := 71) rfl))) e0 Fm (g := (mkF m 2 #[.val (.ref a1), .val (.ref x1)] [(.ref a1), (.ref a1)])) rfl rfl (hb hby own_d18_2)
  refine own_st (fun t k => st95 t k) ?_
  show own_G _ _ _ _ _ _ _ (T95.setTop (mkF m 5 #[.val (.ref a1), .val (.ref x1)] [(.int mc), (.ref a1)]))
  refine own_st (fun t k => XS.iconst X95.here hx rfl (hb hby own_d18_5) k) ?_
  show own_G _ _ _ _ _ _ _ (T95.setTop (mkF m 6 #[.val (.ref a1), .val (.ref x1)] [(.int (1 : Int32)), (.int mc), (.ref a1)]))
  refine own_st (fun t k => XS.iadd X95.here hx rfl (hb hby own_d18_6) rfl k) ?_
  show own_G _ _ _ _ _ _ _ (T95.setTop (mkF m 7 #[.val (.ref a1), .val (.ref x1)] [(.int (mc + (1 : Int32))), (.ref a1)]))
  obtain ⟨T96, h96, X96, e96, W96, st96⟩ := putF X95 hx hZ hown (host := "") (Or.inl (hw _ (List.mem_of_getElem? (i := 70) rfl))) (Via.of (hw _ (List.mem_of_getElem? (i := 71) rfl))) e95 Fm E1 (Or.inl (hw _ (List.mem_of_getElem? (i := 22) rfl))) (hw _ (List.mem_of_getElem? (i := 1) rfl)) (ty := .int) (by decide) rfl rfl (g := (mkF m 7 #[.val (.ref a1), .val (.ref x1)] [(.int (mc + (1 : Int32))), (.ref a1)])) rfl rfl (hb hby own_d18_7)
  have N96 := Fr.snoc X96 N0 g1
  refine own_st (fun t k => st96 t k) ?_
  show own_G _ _ _ _ _ _ _ (T96.setTop (mkF m 10 #[.val (.ref a1), .val (.ref x1)] []))
  have E_97 := E1.wr W96
  have fm_98 := Fm.same W96
  have fs_99 := Fs.other W96 (Or.inr (slot_ne (Or.inl (hw _ (List.mem_of_getElem? (i := 57) rfl))) (Or.inl (hw _ (List.mem_of_getElem? (i := 22) rfl))) (by decide) (t := .int) (t' := .int) (by decide) (by decide)))
  have fe_100 := Fe.other W96 (Or.inr (slot_ne (Or.inl (hw _ (List.mem_of_getElem? (i := 25) rfl))) (Or.inl (hw _ (List.mem_of_getElem? (i := 22) rfl))) (by decide) (t := (.array (.object "java/lang/Object"))) (t' := .int) (by decide) (by decide)))
  have X_101 := Ex.wr W96
  have S_102 := Sd.wr W96
  have VF_103 := Vf.other W96 nf
  have Zz104 : n0 ≤ h96.size := Nat.le_trans Z0 (Keep.of_wr W96).1
  have Kk105 := (Keep.refl h0 [a1]).wr W96 (Or.inl (List.mem_of_getElem? (i := 0) rfl))
  refine own_st (fun t k => XS.aloadN X96.here hx rfl (hb hby own_d18_10) rfl rfl k) ?_
  show own_G _ _ _ _ _ _ _ (T96.setTop (mkF m 11 #[.val (.ref a1), .val (.ref x1)] [(.ref a1)]))
  refine own_st (fun t k => XS.aloadN X96.here hx rfl (hb hby own_d18_11) rfl rfl k) ?_
  show own_G _ _ _ _ _ _ _ (T96.setTop (mkF m 12 #[.val (.ref a1), .val (.ref x1)] [(.ref x1), (.ref a1)]))
  refine own_st (fun t k => XS.aloadN X96.here hx rfl (hb hby own_d18_12) rfl rfl k) ?_
  show own_G _ _ _ _ _ _ _ (T96.setTop (mkF m 13 #[.val (.ref a1), .val (.ref x1)] [(.ref a1), (.ref x1), (.ref a1)]))
  obtain ⟨T106, X106, e106, st106⟩ := getF X96 hx hZ hown (host := "") (Or.inl (hw _ (List.mem_of_getElem? (i := 24) rfl))) Via.refl e96 fe_100 (g := (mkF m 13 #[.val (.ref a1), .val (.ref x1)] [(.ref a1), (.ref x1), (.ref a1)])) rfl rfl (hb hby own_d18_13)
  refine own_st (fun t k => st106 t k) ?_
  show own_G _ _ _ _ _ _ _ (T106.setTop (mkF m 16 #[.val (.ref a1), .val (.ref x1)] [(.ref df), (.ref x1), (.ref a1)]))
  refine own_st (fun t k => XS.aloadN X106.here hx rfl (hb hby own_d18_16) rfl rfl k) ?_
  show own_G _ _ _ _ _ _ _ (T106.setTop (mkF m 17 #[.val (.ref a1), .val (.ref x1)] [(.ref a1), (.ref df), (.ref x1), (.ref a1)]))
  obtain ⟨T107, X107, e107, st107⟩ := getF X106 hx hZ hown (host := "") (Or.inl (hw _ (List.mem_of_getElem? (i := 56) rfl))) Via.refl e106 fs_99 (g := (mkF m 17 #[.val (.ref a1), .val (.ref x1)] [(.ref a1), (.ref df), (.ref x1), (.ref a1)])) rfl rfl (hb hby own_d18_17)
  refine own_st (fun t k => st107 t k) ?_
  show own_G _ _ _ _ _ _ _ (T107.setTop (mkF m 20 #[.val (.ref a1), .val (.ref x1)] [(.int (0 : Int32)), (.ref df), (.ref x1), (.ref a1)]))
  obtain ⟨cq108, kq108, q108a, q108b, q108c⟩ := isOf hZ e107 E_97
  obtain ⟨cp108, qp108, qp108'⟩ := (E_97).cell
  obtain ⟨_, _, ⟨T108, L108, k108, n108⟩, -, X108, ⟨Lc108, hQ108, l108, y108, z108⟩, st108⟩ := X107.privateBack hx (y := (⟨"java/util/ArrayList", "add", "(Ljava/lang/Object;[Ljava/lang/Object;I)V"⟩ : MethodName)) hown (mvT hZ (hw _ (List.mem_of_getElem? (i := 72) rfl))) (mvT hZ (hw _ (List.mem_of_getElem? (i := 73) rfl))) (mvT hZ (hw _ (List.mem_of_getElem? (i := 75) rfl))) (Cond.privateMethod_at (mvP hZ (hw _ (List.mem_of_getElem? (i := 74) rfl)) (args := #[]))) (mvT hZ (hw _ (List.mem_of_getElem? (i := 76) rfl))) (by decide) (backOf (W := 0) (own_rm17 l Z a0 hw [] a1 x1 (mc + 1) df kf h96 n0 Zz104 E_97 fm_98 fs_99 fe_100 g1 S_102 VF_103 X_101) hZ (hw _ (List.mem_of_getElem? (i := 76) rfl)) (hw _ (List.mem_of_getElem? (i := 2) rfl)) (by decide) (by decide)) (g := (mkF m 20 #[.val (.ref a1), .val (.ref x1)] [(.int (0 : Int32)), (.ref df), (.ref x1), (.ref a1)])) rfl (by rw [hml]; rfl) (Steps.refl _) (a := a1) (by rw [e107]; exact qp108) qp108' (argsL := [(.ref x1), (.ref df), (.int (0 : Int32))]) (rest := []) (lenOf own_pd7 rfl) rfl (by show 2 * 0 + _ ≤ _; exact Nat.le_of_eq rfl) (hb hby own_d18_20) (fun _ _ => ⟨rfl, e107, (by decide : 0 + 1 ≤ _), (by decide : 0 + 10 ≤ _)⟩)
  dsimp only [Pt.U, Pt.locs, Pt.cells, Pt.slots] at X108 l108 y108 z108 st108 hQ108
  subst l108 y108 z108
  obtain ⟨d1, k1, rfl, N108q, K108, Ea108, Fa108, Fb108, Fc108, Vd108, Ov108, s1108, s2108⟩ := hQ108
  have N108 := Fr.app N96 N108q
  refine own_st (fun t k => st108.trans k) ?_
  show own_G _ _ _ _ _ _ _ (T108.setTop (mkF m 23 #[.val (.ref a1), .val (.ref x1)] []))
  have sz1 : h0.size ≤ d1 := Nat.le_trans Kk105.1 s1108
  have Kz := Kk105.trans K108 (allS (Or.inl (List.mem_of_getElem? (i := 0) rfl)) all0)
  refine own_st (fun t k => XS.iconst X108.here hx rfl (hb hby own_d18_23) k) ?_
  show own_G _ _ _ _ _ _ _ (T108.setTop (mkF m 24 #[.val (.ref a1), .val (.ref x1)] [(.int (1 : Int32))]))
  exact own_retN (t := .boolean) (by simp) X108 hx Bd.returns (BodyLoose.notSynchronized Bd) (hb hby own_d18_24) (by decide) (by decide) ⟨d1, k1, rfl, N108, Kz, Ea108, Fa108, Fb108, Fc108, Vd108, Ov108, sz1, s2108⟩
def own_Q21 (Z : State) (a1 : Addr) (b0 x1 : Addr) (mc : Int32) (d1 : Addr) (kd : ClassId) (h0 : Heap) (n0 : Nat) (v : Option Value) (h : Heap) (L : List Loc) : Prop := v = none ∧ Fr n0 L ∧ Keep h0 h [a1, d1] ∧ Exa Z h a1 "java/util/ArrayList" ∧ Fld Z h a1 "java/util/AbstractList" "modCount" "I" (.int mc) ∧ Fld Z h a1 "java/util/ArrayList" "size" "I" (.int 2) ∧ Fld Z h a1 "java/util/ArrayList" "elementData" "[Ljava/lang/Object;" (.ref d1) ∧ Arv Z h d1 kd (.object "java/lang/Object") 10 [.ref b0, .ref x1, .null, .null, .null, .null, .null, .null, .null, .null] .null
theorem own_d21_0 : decode jdk_38_method_24_code 0 = .ok (.iload_n 3, 1) := by decide +kernel
theorem own_d21_1 : decode jdk_38_method_24_code 1 = .ok (.aload_n 2, 1) := by decide +kernel
theorem own_d21_2 : decode jdk_38_method_24_code 2 = .ok (.arraylength, 1) := by decide +kernel
theorem own_d21_3 : decode jdk_38_method_24_code 3 = .ok (.if_icmp .ne 8, 3) := by decide +kernel
theorem own_d21_6 : decode jdk_38_method_24_code 6 = .ok (.aload_n 0, 1) := by decide +kernel
theorem own_d21_7 : decode jdk_38_method_24_code 7 = .ok (.invokevirtual 129, 3) := by decide +kernel
theorem own_d21_10 : decode jdk_38_method_24_code 10 = .ok (.astore_n 2, 1) := by decide +kernel
theorem own_d21_11 : decode jdk_38_method_24_code 11 = .ok (.aload_n 2, 1) := by decide +kernel
theorem own_d21_12 : decode jdk_38_method_24_code 12 = .ok (.iload_n 3, 1) := by decide +kernel
theorem own_d21_13 : decode jdk_38_method_24_code 13 = .ok (.aload_n 1, 1) := by decide +kernel
theorem own_d21_14 : decode jdk_38_method_24_code 14 = .ok (.aastore, 1) := by decide +kernel
theorem own_d21_15 : decode jdk_38_method_24_code 15 = .ok (.aload_n 0, 1) := by decide +kernel
theorem own_d21_16 : decode jdk_38_method_24_code 16 = .ok (.iload_n 3, 1) := by decide +kernel
theorem own_d21_17 : decode jdk_38_method_24_code 17 = .ok (.iconst 1, 1) := by decide +kernel
theorem own_d21_18 : decode jdk_38_method_24_code 18 = .ok (.iadd, 1) := by decide +kernel
theorem own_d21_19 : decode jdk_38_method_24_code 19 = .ok (.putfield 48, 3) := by decide +kernel
theorem own_d21_22 : decode jdk_38_method_24_code 22 = .ok (.return_, 1) := by decide +kernel
theorem own_ef21 (m : MethodId) (a1 : Addr) (x1 : Addr) (d1 : Addr) : entryFrame m #[(.ref a1), (.ref x1), (.ref d1), (.int (1 : Int32))] 4 = mkF m 0 #[.val (.ref a1), .val (.ref x1), .val (.ref d1), .val (.int (1 : Int32))] [] := by first | (simp [entryFrame, mkF, argsToLocals, Value.category]; done) | rfl
set_option maxRecDepth 65536 in
set_option maxHeartbeats 40000000 in
theorem own_rm21 (l : Launch) (Z : State) (a0 : Array Value) (hw : ∀ d ∈ tables_1, d.before a0 Z = true) (ws : List Jvm.Cond) (a1 : Addr) (b0 x1 : Addr) (mc : Int32) (d1 : Addr) (kd : ClassId) (h0 : Heap) (n0 : Nat) (Z0 : n0 ≤ h0.size) (E1 : Exa Z h0 a1 "java/util/ArrayList") (Fm : Fld Z h0 a1 "java/util/AbstractList" "modCount" "I" (.int mc)) (Fs : Fld Z h0 a1 "java/util/ArrayList" "size" "I" (.int 1)) (Fe : Fld Z h0 a1 "java/util/ArrayList" "elementData" "[Ljava/lang/Object;" (.ref d1)) (g1 : n0 ≤ a1) (Vd : Arv Z h0 d1 kd (.object "java/lang/Object") 10 [.ref b0, .null, .null, .null, .null, .null, .null, .null, .null, .null] .null) (Ov : Ovr Z kd "java/lang/Object") (gd : n0 ≤ d1) (nd : a1 ≠ d1) (Ex : Exa Z h0 x1 "java/lang/Integer") :
    MetFree l (⟨"java/util/ArrayList", "add", "(Ljava/lang/Object;[Ljava/lang/Object;I)V"⟩ : MethodName) (head1 (Jvm.Cond.code (⟨"java/util/ArrayList", "add", "(Ljava/lang/Object;[Ljava/lang/Object;I)V"⟩ : MethodName) jdk_38_method_24_code 4 none :: ws) ({ frames := 0, cells := 0, slots := 0, locals := 0 } : Room)) (fun a U => a = #[(.ref a1), (.ref x1), (.ref d1), (.int (1 : Int32))] ∧ Z.Warmed39 U.vm ∧ U.heap = h0) (fun _ _ _ _ _ => True) (fun _ U o U' => ∃ v L, o = .returned v ∧ own_Q21 Z a1 b0 x1 mc d1 kd h0 n0 v U'.heap L ∧ FrameEnd U o U' L ({ frames := 0, cells := 0, slots := 0, locals := 0 } : Room).cells ({ frames := 0, cells := 0, slots := 0, locals := 0 } : Room).slots) := by
  refine MetFree.of_bodySF (plainFor_of_name own_pn4) hisR ?_
  intro p e s m args below meth c s₁ Bd hml0 hP hK
  obtain ⟨rfl, hZ, hh⟩ := hP
  have hx := Bd.exec
  have hby := Bd.bytes
  have hml : c.maxLocals = 4 := hml0
  have hown : s.vm.findClass "java/util/ArrayList" = some m.cls := findClass_of_methodNamed Bd.named
  have hnm := (name_of_methodNamed Bd.named Bd.method).1
  have X0 : Stand p l e ({ frames := 0, cells := 0, slots := 0, locals := 0 } : Room) s m #[(.ref a1), (.ref x1), (.ref d1), (.int (1 : Int32))] below meth c s₁ [] 0 0 := Stand.of_body Bd
  have e0 : s₁.heap = h0 := by rw [← hh, Bd.state]; rfl
  have N0 := Fr.nil n0
  refine own_in (Q := own_Q21 Z a1 b0 x1 mc d1 kd h0 n0) ?_
  rw [own_ef21]
  show own_G _ _ _ _ _ _ _ (s₁.setTop (mkF m 0 #[.val (.ref a1), .val (.ref x1), .val (.ref d1), .val (.int (1 : Int32))] []))
  refine own_st (fun t k => XS.iloadN X0.here hx rfl (hb hby own_d21_0) rfl k) ?_
  show own_G _ _ _ _ _ _ _ (s₁.setTop (mkF m 1 #[.val (.ref a1), .val (.ref x1), .val (.ref d1), .val (.int (1 : Int32))] [(.int (1 : Int32))]))
  refine own_st (fun t k => XS.aloadN X0.here hx rfl (hb hby own_d21_1) rfl rfl k) ?_
  show own_G _ _ _ _ _ _ _ (s₁.setTop (mkF m 2 #[.val (.ref a1), .val (.ref x1), .val (.ref d1), .val (.int (1 : Int32))] [(.ref d1), (.int (1 : Int32))]))
  have Vd0 := Vd
  obtain ⟨cd, Ad, -, Sz, Mz, -, -⟩ := Vd0
  refine own_st (fun t k => X0.arraylength hx (by rw [e0]; exact Ad.1) (State.isArrayOf_alike hZ.alike Ad.2.1) (g := (mkF m 2 #[.val (.ref a1), .val (.ref x1), .val (.ref d1), .val (.int (1 : Int32))] [(.ref d1), (.int (1 : Int32))])) rfl rfl (hb hby own_d21_2) t k) ?_
  rw [len_of Sz Mz]
  show own_G _ _ _ _ _ _ _ (s₁.setTop (mkF m 3 #[.val (.ref a1), .val (.ref x1), .val (.ref d1), .val (.int (1 : Int32))] [(.int 10), (.int (1 : Int32))]))
  refine own_st (fun t k => XS.icmpYes X0.here hx rfl (pc0 := 3) (pc' := 11) rfl (hb hby own_d21_3) rfl (feq (by decide)).2 (by decide) (by decide) k) ?_
  show own_G _ _ _ _ _ _ _ (s₁.setTop (mkF m 11 #[.val (.ref a1), .val (.ref x1), .val (.ref d1), .val (.int (1 : Int32))] []))
  refine own_st (fun t k => XS.aloadN X0.here hx rfl (hb hby own_d21_11) rfl rfl k) ?_
  show own_G _ _ _ _ _ _ _ (s₁.setTop (mkF m 12 #[.val (.ref a1), .val (.ref x1), .val (.ref d1), .val (.int (1 : Int32))] [(.ref d1)]))
  refine own_st (fun t k => XS.iloadN X0.here hx rfl (hb hby own_d21_12) rfl k) ?_
  show own_G _ _ _ _ _ _ _ (s₁.setTop (mkF m 13 #[.val (.ref a1), .val (.ref x1), .val (.ref d1), .val (.int (1 : Int32))] [(.int (1 : Int32)), (.ref d1)]))
  refine own_st (fun t k => XS.aloadN X0.here hx rfl (hb hby own_d21_13) rfl rfl k) ?_
  show own_G _ _ _ _ _ _ _ (s₁.setTop (mkF m 14 #[.val (.ref a1), .val (.ref x1), .val (.ref d1), .val (.int (1 : Int32))] [(.ref x1), (.int (1 : Int32)), (.ref d1)]))
  obtain ⟨cl109, Ar109, q109, S109, M109, H109, G109⟩ := Vd
  have hin109 : ¬ ((1 : Int32) < 0 ∨ cl109.slots.size ≤ ((1 : Int32)).toNatClampNeg) := inb_of S109 ⟨by decide, by decide⟩
  obtain ⟨T110, h110, X110, e110, W110, st110⟩ := Jvm.RoadKit.stR X0 hx hZ e0 Ar109 (j := (1 : Int32)) hin109 rfl (Sto.ofV Ar109 q109 Ov (Ins.of_exa Ex (hw _ (List.mem_of_getElem? (i := 93) rfl)))) (g := (mkF m 14 #[.val (.ref a1), .val (.ref x1), .val (.ref d1), .val (.int (1 : Int32))] [(.ref x1), (.int (1 : Int32)), (.ref d1)])) rfl rfl (hb hby own_d21_14)
  have N110 := Fr.snoc X110 N0 gd
  refine own_st (fun t k => st110 t k) ?_
  show own_G _ _ _ _ _ _ _ (T110.setTop (mkF m 15 #[.val (.ref a1), .val (.ref x1), .val (.ref d1), .val (.int (1 : Int32))] []))
  have V_110 : Arv Z h110 d1 kd (.object "java/lang/Object") 10 [.ref b0, .ref x1, .null, .null, .null, .null, .null, .null, .null, .null] .null := Arv.set Ar109 q109 S109 M109 H109 G109 rfl W110 1 rfl (Nat.le_of_ble_eq_true rfl)
  have E_111 := E1.wr W110
  have fm_112 := Fm.other W110 (Or.inl nd)
  have fs_113 := Fs.other W110 (Or.inl nd)
  have fe_114 := Fe.other W110 (Or.inl nd)
  have X_115 := Ex.wr W110
  have Zz116 : n0 ≤ h110.size := Nat.le_trans Z0 (Keep.of_wr W110).1
  have Kk117 := (Keep.refl h0 [a1, d1]).wr W110 (Or.inl (List.mem_of_getElem? (i := 1) rfl))
  refine own_st (fun t k => XS.aloadN X110.here hx rfl (hb hby own_d21_15) rfl rfl k) ?_
  show own_G _ _ _ _ _ _ _ (T110.setTop (mkF m 16 #[.val (.ref a1), .val (.ref x1), .val (.ref d1), .val (.int (1 : Int32))] [(.ref a1)]))
  refine own_st (fun t k => XS.iloadN X110.here hx rfl (hb hby own_d21_16) rfl k) ?_
  show own_G _ _ _ _ _ _ _ (T110.setTop (mkF m 17 #[.val (.ref a1), .val (.ref x1), .val (.ref d1), .val (.int (1 : Int32))] [(.int (1 : Int32)), (.ref a1)]))
  refine own_st (fun t k => XS.iconst X110.here hx rfl (hb hby own_d21_17) k) ?_
  show own_G _ _ _ _ _ _ _ (T110.setTop (mkF m 18 #[.val (.ref a1), .val (.ref x1), .val (.ref d1), .val (.int (1 : Int32))] [(.int (1 : Int32)), (.int (1 : Int32)), (.ref a1)]))
  refine own_st (fun t k => XS.iadd X110.here hx rfl (hb hby own_d21_18) rfl k) ?_
  show own_G _ _ _ _ _ _ _ (T110.setTop (mkF m 19 #[.val (.ref a1), .val (.ref x1), .val (.ref d1), .val (.int (1 : Int32))] [(.int ((1 : Int32) + (1 : Int32))), (.ref a1)]))
  obtain ⟨T118, h118, X118, e118, W118, st118⟩ := putF X110 hx hZ hown (host := "") (Or.inl (hw _ (List.mem_of_getElem? (i := 56) rfl))) Via.refl e110 fs_113 E_111 (Or.inl (hw _ (List.mem_of_getElem? (i := 57) rfl))) (hw _ (List.mem_of_getElem? (i := 1) rfl)) (ty := .int) (by decide) rfl rfl (g := (mkF m 19 #[.val (.ref a1), .val (.ref x1), .val (.ref d1), .val (.int (1 : Int32))] [(.int ((1 : Int32) + (1 : Int32))), (.ref a1)])) rfl rfl (hb hby own_d21_19)
  have N118 := Fr.snoc X118 N110 g1
  refine own_st (fun t k => st118 t k) ?_
  show own_G _ _ _ _ _ _ _ (T118.setTop (mkF m 22 #[.val (.ref a1), .val (.ref x1), .val (.ref d1), .val (.int (1 : Int32))] []))
  have E_119 := E_111.wr W118
  have fm_120 := fm_112.other W118 (Or.inr (slot_ne (Or.inl (hw _ (List.mem_of_getElem? (i := 22) rfl))) (Or.inl (hw _ (List.mem_of_getElem? (i := 57) rfl))) (by decide) (t := .int) (t' := .int) (by decide) (by decide)))
  have fs_121 := fs_113.same W118
  have fe_122 := fe_114.other W118 (Or.inr (slot_ne (Or.inl (hw _ (List.mem_of_getElem? (i := 25) rfl))) (Or.inl (hw _ (List.mem_of_getElem? (i := 57) rfl))) (by decide) (t := (.array (.object "java/lang/Object"))) (t' := .int) (by decide) (by decide)))
  have X_123 := X_115.wr W118
  have V_124 := V_110.other W118 (Ne.symm nd)
  have Zz125 : n0 ≤ h118.size := Nat.le_trans Zz116 (Keep.of_wr W118).1
  have Kk126 := Kk117.wr W118 (Or.inl (List.mem_of_getElem? (i := 0) rfl))
  subst e118
  exact own_retV X118 hx Bd.returns (BodyLoose.notSynchronized Bd) (hb hby own_d21_22) (by decide) (by decide) ⟨rfl, N118, Kk126, E_119, fm_120, fs_121, fe_122, V_124⟩
def own_Q31 (Z : State) (a1 : Addr) (b0 x1 : Addr) (mc : Int32) (d1 : Addr) (kd : ClassId) (h0 : Heap) (n0 : Nat) (v : Option Value) (h : Heap) (L : List Loc) : Prop := v = some (.int 1) ∧ Fr n0 L ∧ Keep h0 h [a1, d1] ∧ Exa Z h a1 "java/util/ArrayList" ∧ Fld Z h a1 "java/util/AbstractList" "modCount" "I" (.int (mc + 1)) ∧ Fld Z h a1 "java/util/ArrayList" "size" "I" (.int 2) ∧ Fld Z h a1 "java/util/ArrayList" "elementData" "[Ljava/lang/Object;" (.ref d1) ∧ Arv Z h d1 kd (.object "java/lang/Object") 10 [.ref b0, .ref x1, .null, .null, .null, .null, .null, .null, .null, .null] .null
theorem own_d31_0 : decode jdk_38_method_25_code 0 = .ok (.aload_n 0, 1) := by decide +kernel
theorem own_d31_1 : decode jdk_38_method_25_code 1 = .ok (.dup, 1) := by decide +kernel
theorem own_d31_2 : decode jdk_38_method_25_code 2 = .ok (.getfield 63, 3) := by decide +kernel
theorem own_d31_5 : decode jdk_38_method_25_code 5 = .ok (.iconst 1, 1) := by decide +kernel
theorem own_d31_6 : decode jdk_38_method_25_code 6 = .ok (.iadd, 1) := by decide +kernel
theorem own_d31_7 : decode jdk_38_method_25_code 7 = .ok (.putfield 63, 3) := by decide +kernel
theorem own_d31_10 : decode jdk_38_method_25_code 10 = .ok (.aload_n 0, 1) := by decide +kernel
theorem own_d31_11 : decode jdk_38_method_25_code 11 = .ok (.aload_n 1, 1) := by decide +kernel
theorem own_d31_12 : decode jdk_38_method_25_code 12 = .ok (.aload_n 0, 1) := by decide +kernel
theorem own_d31_13 : decode jdk_38_method_25_code 13 = .ok (.getfield 9, 3) := by decide +kernel
theorem own_d31_16 : decode jdk_38_method_25_code 16 = .ok (.aload_n 0, 1) := by decide +kernel
theorem own_d31_17 : decode jdk_38_method_25_code 17 = .ok (.getfield 48, 3) := by decide +kernel
theorem own_d31_20 : decode jdk_38_method_25_code 20 = .ok (.invokevirtual 131, 3) := by decide +kernel
theorem own_d31_23 : decode jdk_38_method_25_code 23 = .ok (.iconst 1, 1) := by decide +kernel
theorem own_d31_24 : decode jdk_38_method_25_code 24 = .ok (.ireturn, 1) := by decide +kernel
theorem own_ef31 (m : MethodId) (a1 : Addr) (x1 : Addr) : entryFrame m #[(.ref a1), (.ref x1)] 2 = mkF m 0 #[.val (.ref a1), .val (.ref x1)] [] := by first | (simp [entryFrame, mkF, argsToLocals, Value.category]; done) | rfl
set_option maxRecDepth 65536 in
set_option maxHeartbeats 40000000 in
theorem own_rm31 (l : Launch) (Z : State) (a0 : Array Value) (hw : ∀ d ∈ tables_1, d.before a0 Z = true) (ws : List Jvm.Cond) (a1 : Addr) (b0 x1 : Addr) (mc : Int32) (d1 : Addr) (kd : ClassId) (h0 : Heap) (n0 : Nat) (Z0 : n0 ≤ h0.size) (E1 : Exa Z h0 a1 "java/util/ArrayList") (Fm : Fld Z h0 a1 "java/util/AbstractList" "modCount" "I" (.int mc)) (Fs : Fld Z h0 a1 "java/util/ArrayList" "size" "I" (.int 1)) (Fe : Fld Z h0 a1 "java/util/ArrayList" "elementData" "[Ljava/lang/Object;" (.ref d1)) (g1 : n0 ≤ a1) (Vd : Arv Z h0 d1 kd (.object "java/lang/Object") 10 [.ref b0, .null, .null, .null, .null, .null, .null, .null, .null, .null] .null) (Ov : Ovr Z kd "java/lang/Object") (gd : n0 ≤ d1) (nd : a1 ≠ d1) (Ex : Exa Z h0 x1 "java/lang/Integer") :
    MetFree l (⟨"java/util/ArrayList", "add", "(Ljava/lang/Object;)Z"⟩ : MethodName) (head1 (Jvm.Cond.code (⟨"java/util/ArrayList", "add", "(Ljava/lang/Object;)Z"⟩ : MethodName) jdk_38_method_25_code 2 (some .boolean) :: ws) ({ frames := 1, cells := 0, slots := 0, locals := 15 } : Room)) (fun a U => a = #[(.ref a1), (.ref x1)] ∧ Z.Warmed39 U.vm ∧ U.heap = h0) (fun _ _ _ _ _ => True) (fun _ U o U' => ∃ v L, o = .returned v ∧ own_Q31 Z a1 b0 x1 mc d1 kd h0 n0 v U'.heap L ∧ FrameEnd U o U' L ({ frames := 1, cells := 0, slots := 0, locals := 15 } : Room).cells ({ frames := 1, cells := 0, slots := 0, locals := 15 } : Room).slots) := by
  refine MetFree.of_bodySF (plainFor_of_name own_pn4) hisR ?_
  intro p e s m args below meth c s₁ Bd hml0 hP hK
  obtain ⟨rfl, hZ, hh⟩ := hP
  have hx := Bd.exec
  have hby := Bd.bytes
  have hml : c.maxLocals = 2 := hml0
  have hown : s.vm.findClass "java/util/ArrayList" = some m.cls := findClass_of_methodNamed Bd.named
  have hnm := (name_of_methodNamed Bd.named Bd.method).1
  have X0 : Stand p l e ({ frames := 1, cells := 0, slots := 0, locals := 15 } : Room) s m #[(.ref a1), (.ref x1)] below meth c s₁ [] 0 0 := Stand.of_body Bd
  have e0 : s₁.heap = h0 := by rw [← hh, Bd.state]; rfl
  have N0 := Fr.nil n0
  refine own_in (Q := own_Q31 Z a1 b0 x1 mc d1 kd h0 n0) ?_
  rw [own_ef31]
  show own_G _ _ _ _ _ _ _ (s₁.setTop (mkF m 0 #[.val (.ref a1), .val (.ref x1)] []))
  refine own_st (fun t k => XS.aloadN X0.here hx rfl (hb hby own_d31_0) rfl rfl k) ?_
  show own_G _ _ _ _ _ _ _ (s₁.setTop (mkF m 1 #[.val (.ref a1), .val (.ref x1)] [(.ref a1)]))
  refine own_st (fun t k => XS.dup X0.here hx rfl (hb hby own_d31_1) rfl rfl k) ?_
  show own_G _ _ _ _ _ _ _ (s₁.setTop (mkF m 2 #[.val (.ref a1), .val (.ref x1)] [(.ref a1), (.ref a1)]))
  obtain ⟨T127, X127, e127, st127⟩ := getF X0 hx hZ hown (host := "") (Or.inl (hw _ (List.mem_of_getElem? (i := 70) rfl))) (Via.of (hw _ (List.mem_of_getElem? (i := 71) rfl))) e0 Fm (g := (mkF m 2 #[.val (.ref a1), .val (.ref x1)] [(.ref a1), (.ref a1)])) rfl rfl (hb hby own_d31_2)
  refine own_st (fun t k => st127 t k) ?_
  show own_G _ _ _ _ _ _ _ (T127.setTop (mkF m 5 #[.val (.ref a1), .val (.ref x1)] [(.int mc), (.ref a1)]))
  refine own_st (fun t k => XS.iconst X127.here hx rfl (hb hby own_d31_5) k) ?_
  show own_G _ _ _ _ _ _ _ (T127.setTop (mkF m 6 #[.val (.ref a1), .val (.ref x1)] [(.int (1 : Int32)), (.int mc), (.ref a1)]))
  refine own_st (fun t k => XS.iadd X127.here hx rfl (hb hby own_d31_6) rfl k) ?_
  show own_G _ _ _ _ _ _ _ (T127.setTop (mkF m 7 #[.val (.ref a1), .val (.ref x1)] [(.int (mc + (1 : Int32))), (.ref a1)]))
  obtain ⟨T128, h128, X128, e128, W128, st128⟩ := putF X127 hx hZ hown (host := "") (Or.inl (hw _ (List.mem_of_getElem? (i := 70) rfl))) (Via.of (hw _ (List.mem_of_getElem? (i := 71) rfl))) e127 Fm E1 (Or.inl (hw _ (List.mem_of_getElem? (i := 22) rfl))) (hw _ (List.mem_of_getElem? (i := 1) rfl)) (ty := .int) (by decide) rfl rfl (g := (mkF m 7 #[.val (.ref a1), .val (.ref x1)] [(.int (mc + (1 : Int32))), (.ref a1)])) rfl rfl (hb hby own_d31_7)
  have N128 := Fr.snoc X128 N0 g1
  refine own_st (fun t k => st128 t k) ?_
  show own_G _ _ _ _ _ _ _ (T128.setTop (mkF m 10 #[.val (.ref a1), .val (.ref x1)] []))
  have E_129 := E1.wr W128
  have fm_130 := Fm.same W128
  have fs_131 := Fs.other W128 (Or.inr (slot_ne (Or.inl (hw _ (List.mem_of_getElem? (i := 57) rfl))) (Or.inl (hw _ (List.mem_of_getElem? (i := 22) rfl))) (by decide) (t := .int) (t' := .int) (by decide) (by decide)))
  have fe_132 := Fe.other W128 (Or.inr (slot_ne (Or.inl (hw _ (List.mem_of_getElem? (i := 25) rfl))) (Or.inl (hw _ (List.mem_of_getElem? (i := 22) rfl))) (by decide) (t := (.array (.object "java/lang/Object"))) (t' := .int) (by decide) (by decide)))
  have X_133 := Ex.wr W128
  have V_134 := Vd.other W128 (Ne.symm nd)
  have Zz135 : n0 ≤ h128.size := Nat.le_trans Z0 (Keep.of_wr W128).1
  have Kk136 := (Keep.refl h0 [a1, d1]).wr W128 (Or.inl (List.mem_of_getElem? (i := 0) rfl))
  refine own_st (fun t k => XS.aloadN X128.here hx rfl (hb hby own_d31_10) rfl rfl k) ?_
  show own_G _ _ _ _ _ _ _ (T128.setTop (mkF m 11 #[.val (.ref a1), .val (.ref x1)] [(.ref a1)]))
  refine own_st (fun t k => XS.aloadN X128.here hx rfl (hb hby own_d31_11) rfl rfl k) ?_
  show own_G _ _ _ _ _ _ _ (T128.setTop (mkF m 12 #[.val (.ref a1), .val (.ref x1)] [(.ref x1), (.ref a1)]))
  refine own_st (fun t k => XS.aloadN X128.here hx rfl (hb hby own_d31_12) rfl rfl k) ?_
  show own_G _ _ _ _ _ _ _ (T128.setTop (mkF m 13 #[.val (.ref a1), .val (.ref x1)] [(.ref a1), (.ref x1), (.ref a1)]))
  obtain ⟨T137, X137, e137, st137⟩ := getF X128 hx hZ hown (host := "") (Or.inl (hw _ (List.mem_of_getElem? (i := 24) rfl))) Via.refl e128 fe_132 (g := (mkF m 13 #[.val (.ref a1), .val (.ref x1)] [(.ref a1), (.ref x1), (.ref a1)])) rfl rfl (hb hby own_d31_13)
  refine own_st (fun t k => st137 t k) ?_
  show own_G _ _ _ _ _ _ _ (T137.setTop (mkF m 16 #[.val (.ref a1), .val (.ref x1)] [(.ref d1), (.ref x1), (.ref a1)]))
  refine own_st (fun t k => XS.aloadN X137.here hx rfl (hb hby own_d31_16) rfl rfl k) ?_
  show own_G _ _ _ _ _ _ _ (T137.setTop (mkF m 17 #[.val (.ref a1), .val (.ref x1)] [(.ref a1), (.ref d1), (.ref x1), (.ref a1)]))
  obtain ⟨T138, X138, e138, st138⟩ := getF X137 hx hZ hown (host := "") (Or.inl (hw _ (List.mem_of_getElem? (i := 56) rfl))) Via.refl e137 fs_131 (g := (mkF m 17 #[.val (.ref a1), .val (.ref x1)] [(.ref a1), (.ref d1), (.ref x1), (.ref a1)])) rfl rfl (hb hby own_d31_17)
  refine own_st (fun t k => st138 t k) ?_
  show own_G _ _ _ _ _ _ _ (T138.setTop (mkF m 20 #[.val (.ref a1), .val (.ref x1)] [(.int (1 : Int32)), (.ref d1), (.ref x1), (.ref a1)]))
  obtain ⟨cq139, kq139, q139a, q139b, q139c⟩ := isOf hZ e138 E_129
  obtain ⟨cp139, qp139, qp139'⟩ := (E_129).cell
  obtain ⟨_, _, ⟨T139, L139, k139, n139⟩, -, X139, ⟨Lc139, hQ139, l139, y139, z139⟩, st139⟩ := X138.privateBack hx (y := (⟨"java/util/ArrayList", "add", "(Ljava/lang/Object;[Ljava/lang/Object;I)V"⟩ : MethodName)) hown (mvT hZ (hw _ (List.mem_of_getElem? (i := 72) rfl))) (mvT hZ (hw _ (List.mem_of_getElem? (i := 73) rfl))) (mvT hZ (hw _ (List.mem_of_getElem? (i := 75) rfl))) (Cond.privateMethod_at (mvP hZ (hw _ (List.mem_of_getElem? (i := 74) rfl)) (args := #[]))) (mvT hZ (hw _ (List.mem_of_getElem? (i := 76) rfl))) (by decide) (backOf (W := 0) (own_rm21 l Z a0 hw [] a1 b0 x1 (mc + 1) d1 kd h128 n0 Zz135 E_129 fm_130 fs_131 fe_132 g1 V_134 Ov gd nd X_133) hZ (hw _ (List.mem_of_getElem? (i := 76) rfl)) (hw _ (List.mem_of_getElem? (i := 2) rfl)) (by decide) (by decide)) (g := (mkF m 20 #[.val (.ref a1), .val (.ref x1)] [(.int (1 : Int32)), (.ref d1), (.ref x1), (.ref a1)])) rfl (by rw [hml]; rfl) (Steps.refl _) (a := a1) (by rw [e138]; exact qp139) qp139' (argsL := [(.ref x1), (.ref d1), (.int (1 : Int32))]) (rest := []) (lenOf own_pd7 rfl) rfl (by show 2 * 0 + _ ≤ _; exact Nat.le_of_eq rfl) (hb hby own_d31_20) (fun _ _ => ⟨rfl, e138, (by decide : 0 + 0 ≤ _), (by decide : 0 + 0 ≤ _)⟩)
  dsimp only [Pt.U, Pt.locs, Pt.cells, Pt.slots] at X139 l139 y139 z139 st139 hQ139
  subst l139 y139 z139
  obtain ⟨rfl, N139q, K139, Ea139, Fa139, Fb139, Fc139, Vd139⟩ := hQ139
  have N139 := Fr.app N128 N139q
  refine own_st (fun t k => st139.trans k) ?_
  show own_G _ _ _ _ _ _ _ (T139.setTop (mkF m 23 #[.val (.ref a1), .val (.ref x1)] []))
  have Kz := Kk136.trans K139 (allS (Or.inl (List.mem_of_getElem? (i := 0) rfl)) (allS (Or.inl (List.mem_of_getElem? (i := 1) rfl)) all0))
  refine own_st (fun t k => XS.iconst X139.here hx rfl (hb hby own_d31_23) k) ?_
  show own_G _ _ _ _ _ _ _ (T139.setTop (mkF m 24 #[.val (.ref a1), .val (.ref x1)] [(.int (1 : Int32))]))
  exact own_retN (t := .boolean) (by simp) X139 hx Bd.returns (BodyLoose.notSynchronized Bd) (hb hby own_d31_24) (by decide) (by decide) ⟨rfl, N139, Kz, Ea139, Fa139, Fb139, Fc139, Vd139⟩
def own_Q22 (Z : State) (a1 : Addr) (b0 b1 x1 : Addr) (mc : Int32) (d1 : Addr) (kd : ClassId) (h0 : Heap) (n0 : Nat) (v : Option Value) (h : Heap) (L : List Loc) : Prop := v = none ∧ Fr n0 L ∧ Keep h0 h [a1, d1] ∧ Exa Z h a1 "java/util/ArrayList" ∧ Fld Z h a1 "java/util/AbstractList" "modCount" "I" (.int mc) ∧ Fld Z h a1 "java/util/ArrayList" "size" "I" (.int 3) ∧ Fld Z h a1 "java/util/ArrayList" "elementData" "[Ljava/lang/Object;" (.ref d1) ∧ Arv Z h d1 kd (.object "java/lang/Object") 10 [.ref b0, .ref b1, .ref x1, .null, .null, .null, .null, .null, .null, .null] .null
theorem own_d22_0 : decode jdk_38_method_24_code 0 = .ok (.iload_n 3, 1) := by decide +kernel
theorem own_d22_1 : decode jdk_38_method_24_code 1 = .ok (.aload_n 2, 1) := by decide +kernel
theorem own_d22_2 : decode jdk_38_method_24_code 2 = .ok (.arraylength, 1) := by decide +kernel
theorem own_d22_3 : decode jdk_38_method_24_code 3 = .ok (.if_icmp .ne 8, 3) := by decide +kernel
theorem own_d22_6 : decode jdk_38_method_24_code 6 = .ok (.aload_n 0, 1) := by decide +kernel
theorem own_d22_7 : decode jdk_38_method_24_code 7 = .ok (.invokevirtual 129, 3) := by decide +kernel
theorem own_d22_10 : decode jdk_38_method_24_code 10 = .ok (.astore_n 2, 1) := by decide +kernel
theorem own_d22_11 : decode jdk_38_method_24_code 11 = .ok (.aload_n 2, 1) := by decide +kernel
theorem own_d22_12 : decode jdk_38_method_24_code 12 = .ok (.iload_n 3, 1) := by decide +kernel
theorem own_d22_13 : decode jdk_38_method_24_code 13 = .ok (.aload_n 1, 1) := by decide +kernel
theorem own_d22_14 : decode jdk_38_method_24_code 14 = .ok (.aastore, 1) := by decide +kernel
theorem own_d22_15 : decode jdk_38_method_24_code 15 = .ok (.aload_n 0, 1) := by decide +kernel
theorem own_d22_16 : decode jdk_38_method_24_code 16 = .ok (.iload_n 3, 1) := by decide +kernel
theorem own_d22_17 : decode jdk_38_method_24_code 17 = .ok (.iconst 1, 1) := by decide +kernel
theorem own_d22_18 : decode jdk_38_method_24_code 18 = .ok (.iadd, 1) := by decide +kernel
theorem own_d22_19 : decode jdk_38_method_24_code 19 = .ok (.putfield 48, 3) := by decide +kernel
theorem own_d22_22 : decode jdk_38_method_24_code 22 = .ok (.return_, 1) := by decide +kernel
theorem own_ef22 (m : MethodId) (a1 : Addr) (x1 : Addr) (d1 : Addr) : entryFrame m #[(.ref a1), (.ref x1), (.ref d1), (.int (2 : Int32))] 4 = mkF m 0 #[.val (.ref a1), .val (.ref x1), .val (.ref d1), .val (.int (2 : Int32))] [] := by first | (simp [entryFrame, mkF, argsToLocals, Value.category]; done) | rfl
set_option maxRecDepth 65536 in
set_option maxHeartbeats 40000000 in
theorem own_rm22 (l : Launch) (Z : State) (a0 : Array Value) (hw : ∀ d ∈ tables_1, d.before a0 Z = true) (ws : List Jvm.Cond) (a1 : Addr) (b0 b1 x1 : Addr) (mc : Int32) (d1 : Addr) (kd : ClassId) (h0 : Heap) (n0 : Nat) (Z0 : n0 ≤ h0.size) (E1 : Exa Z h0 a1 "java/util/ArrayList") (Fm : Fld Z h0 a1 "java/util/AbstractList" "modCount" "I" (.int mc)) (Fs : Fld Z h0 a1 "java/util/ArrayList" "size" "I" (.int 2)) (Fe : Fld Z h0 a1 "java/util/ArrayList" "elementData" "[Ljava/lang/Object;" (.ref d1)) (g1 : n0 ≤ a1) (Vd : Arv Z h0 d1 kd (.object "java/lang/Object") 10 [.ref b0, .ref b1, .null, .null, .null, .null, .null, .null, .null, .null] .null) (Ov : Ovr Z kd "java/lang/Object") (gd : n0 ≤ d1) (nd : a1 ≠ d1) (Ex : Exa Z h0 x1 "java/lang/Integer") :
    MetFree l (⟨"java/util/ArrayList", "add", "(Ljava/lang/Object;[Ljava/lang/Object;I)V"⟩ : MethodName) (head1 (Jvm.Cond.code (⟨"java/util/ArrayList", "add", "(Ljava/lang/Object;[Ljava/lang/Object;I)V"⟩ : MethodName) jdk_38_method_24_code 4 none :: ws) ({ frames := 0, cells := 0, slots := 0, locals := 0 } : Room)) (fun a U => a = #[(.ref a1), (.ref x1), (.ref d1), (.int (2 : Int32))] ∧ Z.Warmed39 U.vm ∧ U.heap = h0) (fun _ _ _ _ _ => True) (fun _ U o U' => ∃ v L, o = .returned v ∧ own_Q22 Z a1 b0 b1 x1 mc d1 kd h0 n0 v U'.heap L ∧ FrameEnd U o U' L ({ frames := 0, cells := 0, slots := 0, locals := 0 } : Room).cells ({ frames := 0, cells := 0, slots := 0, locals := 0 } : Room).slots) := by
  refine MetFree.of_bodySF (plainFor_of_name own_pn4) hisR ?_
  intro p e s m args below meth c s₁ Bd hml0 hP hK
  obtain ⟨rfl, hZ, hh⟩ := hP
  have hx := Bd.exec
  have hby := Bd.bytes
  have hml : c.maxLocals = 4 := hml0
  have hown : s.vm.findClass "java/util/ArrayList" = some m.cls := findClass_of_methodNamed Bd.named
  have hnm := (name_of_methodNamed Bd.named Bd.method).1
  have X0 : Stand p l e ({ frames := 0, cells := 0, slots := 0, locals := 0 } : Room) s m #[(.ref a1), (.ref x1), (.ref d1), (.int (2 : Int32))] below meth c s₁ [] 0 0 := Stand.of_body Bd
  have e0 : s₁.heap = h0 := by rw [← hh, Bd.state]; rfl
  have N0 := Fr.nil n0
  refine own_in (Q := own_Q22 Z a1 b0 b1 x1 mc d1 kd h0 n0) ?_
  rw [own_ef22]
  show own_G _ _ _ _ _ _ _ (s₁.setTop (mkF m 0 #[.val (.ref a1), .val (.ref x1), .val (.ref d1), .val (.int (2 : Int32))] []))
  refine own_st (fun t k => XS.iloadN X0.here hx rfl (hb hby own_d22_0) rfl k) ?_
  show own_G _ _ _ _ _ _ _ (s₁.setTop (mkF m 1 #[.val (.ref a1), .val (.ref x1), .val (.ref d1), .val (.int (2 : Int32))] [(.int (2 : Int32))]))
  refine own_st (fun t k => XS.aloadN X0.here hx rfl (hb hby own_d22_1) rfl rfl k) ?_
  show own_G _ _ _ _ _ _ _ (s₁.setTop (mkF m 2 #[.val (.ref a1), .val (.ref x1), .val (.ref d1), .val (.int (2 : Int32))] [(.ref d1), (.int (2 : Int32))]))
  have Vd0 := Vd
  obtain ⟨cd, Ad, -, Sz, Mz, -, -⟩ := Vd0
  refine own_st (fun t k => X0.arraylength hx (by rw [e0]; exact Ad.1) (State.isArrayOf_alike hZ.alike Ad.2.1) (g := (mkF m 2 #[.val (.ref a1), .val (.ref x1), .val (.ref d1), .val (.int (2 : Int32))] [(.ref d1), (.int (2 : Int32))])) rfl rfl (hb hby own_d22_2) t k) ?_
  rw [len_of Sz Mz]
  show own_G _ _ _ _ _ _ _ (s₁.setTop (mkF m 3 #[.val (.ref a1), .val (.ref x1), .val (.ref d1), .val (.int (2 : Int32))] [(.int 10), (.int (2 : Int32))]))
  refine own_st (fun t k => XS.icmpYes X0.here hx rfl (pc0 := 3) (pc' := 11) rfl (hb hby own_d22_3) rfl (feq (by decide)).2 (by decide) (by decide) k) ?_
  show own_G _ _ _ _ _ _ _ (s₁.setTop (mkF m 11 #[.val (.ref a1), .val (.ref x1), .val (.ref d1), .val (.int (2 : Int32))] []))
  refine own_st (fun t k => XS.aloadN X0.here hx rfl (hb hby own_d22_11) rfl rfl k) ?_
  show own_G _ _ _ _ _ _ _ (s₁.setTop (mkF m 12 #[.val (.ref a1), .val (.ref x1), .val (.ref d1), .val (.int (2 : Int32))] [(.ref d1)]))
  refine own_st (fun t k => XS.iloadN X0.here hx rfl (hb hby own_d22_12) rfl k) ?_
  show own_G _ _ _ _ _ _ _ (s₁.setTop (mkF m 13 #[.val (.ref a1), .val (.ref x1), .val (.ref d1), .val (.int (2 : Int32))] [(.int (2 : Int32)), (.ref d1)]))
  refine own_st (fun t k => XS.aloadN X0.here hx rfl (hb hby own_d22_13) rfl rfl k) ?_
  show own_G _ _ _ _ _ _ _ (s₁.setTop (mkF m 14 #[.val (.ref a1), .val (.ref x1), .val (.ref d1), .val (.int (2 : Int32))] [(.ref x1), (.int (2 : Int32)), (.ref d1)]))
  obtain ⟨cl140, Ar140, q140, S140, M140, H140, G140⟩ := Vd
  have hin140 : ¬ ((2 : Int32) < 0 ∨ cl140.slots.size ≤ ((2 : Int32)).toNatClampNeg) := inb_of S140 ⟨by decide, by decide⟩
  obtain ⟨T141, h141, X141, e141, W141, st141⟩ := Jvm.RoadKit.stR X0 hx hZ e0 Ar140 (j := (2 : Int32)) hin140 rfl (Sto.ofV Ar140 q140 Ov (Ins.of_exa Ex (hw _ (List.mem_of_getElem? (i := 93) rfl)))) (g := (mkF m 14 #[.val (.ref a1), .val (.ref x1), .val (.ref d1), .val (.int (2 : Int32))] [(.ref x1), (.int (2 : Int32)), (.ref d1)])) rfl rfl (hb hby own_d22_14)
  have N141 := Fr.snoc X141 N0 gd
  refine own_st (fun t k => st141 t k) ?_
  show own_G _ _ _ _ _ _ _ (T141.setTop (mkF m 15 #[.val (.ref a1), .val (.ref x1), .val (.ref d1), .val (.int (2 : Int32))] []))
  have V_141 : Arv Z h141 d1 kd (.object "java/lang/Object") 10 [.ref b0, .ref b1, .ref x1, .null, .null, .null, .null, .null, .null, .null] .null := Arv.set Ar140 q140 S140 M140 H140 G140 rfl W141 2 rfl (Nat.le_of_ble_eq_true rfl)
  have E_142 := E1.wr W141
  have fm_143 := Fm.other W141 (Or.inl nd)
  have fs_144 := Fs.other W141 (Or.inl nd)
  have fe_145 := Fe.other W141 (Or.inl nd)
  have X_146 := Ex.wr W141
  have Zz147 : n0 ≤ h141.size := Nat.le_trans Z0 (Keep.of_wr W141).1
  have Kk148 := (Keep.refl h0 [a1, d1]).wr W141 (Or.inl (List.mem_of_getElem? (i := 1) rfl))
  refine own_st (fun t k => XS.aloadN X141.here hx rfl (hb hby own_d22_15) rfl rfl k) ?_
  show own_G _ _ _ _ _ _ _ (T141.setTop (mkF m 16 #[.val (.ref a1), .val (.ref x1), .val (.ref d1), .val (.int (2 : Int32))] [(.ref a1)]))
  refine own_st (fun t k => XS.iloadN X141.here hx rfl (hb hby own_d22_16) rfl k) ?_
  show own_G _ _ _ _ _ _ _ (T141.setTop (mkF m 17 #[.val (.ref a1), .val (.ref x1), .val (.ref d1), .val (.int (2 : Int32))] [(.int (2 : Int32)), (.ref a1)]))
  refine own_st (fun t k => XS.iconst X141.here hx rfl (hb hby own_d22_17) k) ?_
  show own_G _ _ _ _ _ _ _ (T141.setTop (mkF m 18 #[.val (.ref a1), .val (.ref x1), .val (.ref d1), .val (.int (2 : Int32))] [(.int (1 : Int32)), (.int (2 : Int32)), (.ref a1)]))
  refine own_st (fun t k => XS.iadd X141.here hx rfl (hb hby own_d22_18) rfl k) ?_
  show own_G _ _ _ _ _ _ _ (T141.setTop (mkF m 19 #[.val (.ref a1), .val (.ref x1), .val (.ref d1), .val (.int (2 : Int32))] [(.int ((2 : Int32) + (1 : Int32))), (.ref a1)]))
  obtain ⟨T149, h149, X149, e149, W149, st149⟩ := putF X141 hx hZ hown (host := "") (Or.inl (hw _ (List.mem_of_getElem? (i := 56) rfl))) Via.refl e141 fs_144 E_142 (Or.inl (hw _ (List.mem_of_getElem? (i := 57) rfl))) (hw _ (List.mem_of_getElem? (i := 1) rfl)) (ty := .int) (by decide) rfl rfl (g := (mkF m 19 #[.val (.ref a1), .val (.ref x1), .val (.ref d1), .val (.int (2 : Int32))] [(.int ((2 : Int32) + (1 : Int32))), (.ref a1)])) rfl rfl (hb hby own_d22_19)
  have N149 := Fr.snoc X149 N141 g1
  refine own_st (fun t k => st149 t k) ?_
  show own_G _ _ _ _ _ _ _ (T149.setTop (mkF m 22 #[.val (.ref a1), .val (.ref x1), .val (.ref d1), .val (.int (2 : Int32))] []))
  have E_150 := E_142.wr W149
  have fm_151 := fm_143.other W149 (Or.inr (slot_ne (Or.inl (hw _ (List.mem_of_getElem? (i := 22) rfl))) (Or.inl (hw _ (List.mem_of_getElem? (i := 57) rfl))) (by decide) (t := .int) (t' := .int) (by decide) (by decide)))
  have fs_152 := fs_144.same W149
  have fe_153 := fe_145.other W149 (Or.inr (slot_ne (Or.inl (hw _ (List.mem_of_getElem? (i := 25) rfl))) (Or.inl (hw _ (List.mem_of_getElem? (i := 57) rfl))) (by decide) (t := (.array (.object "java/lang/Object"))) (t' := .int) (by decide) (by decide)))
  have X_154 := X_146.wr W149
  have V_155 := V_141.other W149 (Ne.symm nd)
  have Zz156 : n0 ≤ h149.size := Nat.le_trans Zz147 (Keep.of_wr W149).1
  have Kk157 := Kk148.wr W149 (Or.inl (List.mem_of_getElem? (i := 0) rfl))
  subst e149
  exact own_retV X149 hx Bd.returns (BodyLoose.notSynchronized Bd) (hb hby own_d22_22) (by decide) (by decide) ⟨rfl, N149, Kk157, E_150, fm_151, fs_152, fe_153, V_155⟩
def own_Q32 (Z : State) (a1 : Addr) (b0 b1 x1 : Addr) (mc : Int32) (d1 : Addr) (kd : ClassId) (h0 : Heap) (n0 : Nat) (v : Option Value) (h : Heap) (L : List Loc) : Prop := v = some (.int 1) ∧ Fr n0 L ∧ Keep h0 h [a1, d1] ∧ Exa Z h a1 "java/util/ArrayList" ∧ Fld Z h a1 "java/util/AbstractList" "modCount" "I" (.int (mc + 1)) ∧ Fld Z h a1 "java/util/ArrayList" "size" "I" (.int 3) ∧ Fld Z h a1 "java/util/ArrayList" "elementData" "[Ljava/lang/Object;" (.ref d1) ∧ Arv Z h d1 kd (.object "java/lang/Object") 10 [.ref b0, .ref b1, .ref x1, .null, .null, .null, .null, .null, .null, .null] .null
theorem own_d32_0 : decode jdk_38_method_25_code 0 = .ok (.aload_n 0, 1) := by decide +kernel
theorem own_d32_1 : decode jdk_38_method_25_code 1 = .ok (.dup, 1) := by decide +kernel
theorem own_d32_2 : decode jdk_38_method_25_code 2 = .ok (.getfield 63, 3) := by decide +kernel
theorem own_d32_5 : decode jdk_38_method_25_code 5 = .ok (.iconst 1, 1) := by decide +kernel
theorem own_d32_6 : decode jdk_38_method_25_code 6 = .ok (.iadd, 1) := by decide +kernel
theorem own_d32_7 : decode jdk_38_method_25_code 7 = .ok (.putfield 63, 3) := by decide +kernel
theorem own_d32_10 : decode jdk_38_method_25_code 10 = .ok (.aload_n 0, 1) := by decide +kernel
theorem own_d32_11 : decode jdk_38_method_25_code 11 = .ok (.aload_n 1, 1) := by decide +kernel
theorem own_d32_12 : decode jdk_38_method_25_code 12 = .ok (.aload_n 0, 1) := by decide +kernel
theorem own_d32_13 : decode jdk_38_method_25_code 13 = .ok (.getfield 9, 3) := by decide +kernel
theorem own_d32_16 : decode jdk_38_method_25_code 16 = .ok (.aload_n 0, 1) := by decide +kernel
theorem own_d32_17 : decode jdk_38_method_25_code 17 = .ok (.getfield 48, 3) := by decide +kernel
theorem own_d32_20 : decode jdk_38_method_25_code 20 = .ok (.invokevirtual 131, 3) := by decide +kernel
theorem own_d32_23 : decode jdk_38_method_25_code 23 = .ok (.iconst 1, 1) := by decide +kernel
theorem own_d32_24 : decode jdk_38_method_25_code 24 = .ok (.ireturn, 1) := by decide +kernel
theorem own_ef32 (m : MethodId) (a1 : Addr) (x1 : Addr) : entryFrame m #[(.ref a1), (.ref x1)] 2 = mkF m 0 #[.val (.ref a1), .val (.ref x1)] [] := by first | (simp [entryFrame, mkF, argsToLocals, Value.category]; done) | rfl
set_option maxRecDepth 65536 in
set_option maxHeartbeats 40000000 in
theorem own_rm32 (l : Launch) (Z : State) (a0 : Array Value) (hw : ∀ d ∈ tables_1, d.before a0 Z = true) (ws : List Jvm.Cond) (a1 : Addr) (b0 b1 x1 : Addr) (mc : Int32) (d1 : Addr) (kd : ClassId) (h0 : Heap) (n0 : Nat) (Z0 : n0 ≤ h0.size) (E1 : Exa Z h0 a1 "java/util/ArrayList") (Fm : Fld Z h0 a1 "java/util/AbstractList" "modCount" "I" (.int mc)) (Fs : Fld Z h0 a1 "java/util/ArrayList" "size" "I" (.int 2)) (Fe : Fld Z h0 a1 "java/util/ArrayList" "elementData" "[Ljava/lang/Object;" (.ref d1)) (g1 : n0 ≤ a1) (Vd : Arv Z h0 d1 kd (.object "java/lang/Object") 10 [.ref b0, .ref b1, .null, .null, .null, .null, .null, .null, .null, .null] .null) (Ov : Ovr Z kd "java/lang/Object") (gd : n0 ≤ d1) (nd : a1 ≠ d1) (Ex : Exa Z h0 x1 "java/lang/Integer") :
    MetFree l (⟨"java/util/ArrayList", "add", "(Ljava/lang/Object;)Z"⟩ : MethodName) (head1 (Jvm.Cond.code (⟨"java/util/ArrayList", "add", "(Ljava/lang/Object;)Z"⟩ : MethodName) jdk_38_method_25_code 2 (some .boolean) :: ws) ({ frames := 1, cells := 0, slots := 0, locals := 15 } : Room)) (fun a U => a = #[(.ref a1), (.ref x1)] ∧ Z.Warmed39 U.vm ∧ U.heap = h0) (fun _ _ _ _ _ => True) (fun _ U o U' => ∃ v L, o = .returned v ∧ own_Q32 Z a1 b0 b1 x1 mc d1 kd h0 n0 v U'.heap L ∧ FrameEnd U o U' L ({ frames := 1, cells := 0, slots := 0, locals := 15 } : Room).cells ({ frames := 1, cells := 0, slots := 0, locals := 15 } : Room).slots) := by
  refine MetFree.of_bodySF (plainFor_of_name own_pn4) hisR ?_
  intro p e s m args below meth c s₁ Bd hml0 hP hK
  obtain ⟨rfl, hZ, hh⟩ := hP
  have hx := Bd.exec
  have hby := Bd.bytes
  have hml : c.maxLocals = 2 := hml0
  have hown : s.vm.findClass "java/util/ArrayList" = some m.cls := findClass_of_methodNamed Bd.named
  have hnm := (name_of_methodNamed Bd.named Bd.method).1
  have X0 : Stand p l e ({ frames := 1, cells := 0, slots := 0, locals := 15 } : Room) s m #[(.ref a1), (.ref x1)] below meth c s₁ [] 0 0 := Stand.of_body Bd
  have e0 : s₁.heap = h0 := by rw [← hh, Bd.state]; rfl
  have N0 := Fr.nil n0
  refine own_in (Q := own_Q32 Z a1 b0 b1 x1 mc d1 kd h0 n0) ?_
  rw [own_ef32]
  show own_G _ _ _ _ _ _ _ (s₁.setTop (mkF m 0 #[.val (.ref a1), .val (.ref x1)] []))
  refine own_st (fun t k => XS.aloadN X0.here hx rfl (hb hby own_d32_0) rfl rfl k) ?_
  show own_G _ _ _ _ _ _ _ (s₁.setTop (mkF m 1 #[.val (.ref a1), .val (.ref x1)] [(.ref a1)]))
  refine own_st (fun t k => XS.dup X0.here hx rfl (hb hby own_d32_1) rfl rfl k) ?_
  show own_G _ _ _ _ _ _ _ (s₁.setTop (mkF m 2 #[.val (.ref a1), .val (.ref x1)] [(.ref a1), (.ref a1)]))
  obtain ⟨T158, X158, e158, st158⟩ := getF X0 hx hZ hown (host := "") (Or.inl (hw _ (List.mem_of_getElem? (i := 70) rfl))) (Via.of (hw _ (List.mem_of_getElem? (i := 71) rfl))) e0 Fm (g := (mkF m 2 #[.val (.ref a1), .val (.ref x1)] [(.ref a1), (.ref a1)])) rfl rfl (hb hby own_d32_2)
  refine own_st (fun t k => st158 t k) ?_
  show own_G _ _ _ _ _ _ _ (T158.setTop (mkF m 5 #[.val (.ref a1), .val (.ref x1)] [(.int mc), (.ref a1)]))
  refine own_st (fun t k => XS.iconst X158.here hx rfl (hb hby own_d32_5) k) ?_
  show own_G _ _ _ _ _ _ _ (T158.setTop (mkF m 6 #[.val (.ref a1), .val (.ref x1)] [(.int (1 : Int32)), (.int mc), (.ref a1)]))
  refine own_st (fun t k => XS.iadd X158.here hx rfl (hb hby own_d32_6) rfl k) ?_
  show own_G _ _ _ _ _ _ _ (T158.setTop (mkF m 7 #[.val (.ref a1), .val (.ref x1)] [(.int (mc + (1 : Int32))), (.ref a1)]))
  obtain ⟨T159, h159, X159, e159, W159, st159⟩ := putF X158 hx hZ hown (host := "") (Or.inl (hw _ (List.mem_of_getElem? (i := 70) rfl))) (Via.of (hw _ (List.mem_of_getElem? (i := 71) rfl))) e158 Fm E1 (Or.inl (hw _ (List.mem_of_getElem? (i := 22) rfl))) (hw _ (List.mem_of_getElem? (i := 1) rfl)) (ty := .int) (by decide) rfl rfl (g := (mkF m 7 #[.val (.ref a1), .val (.ref x1)] [(.int (mc + (1 : Int32))), (.ref a1)])) rfl rfl (hb hby own_d32_7)
  have N159 := Fr.snoc X159 N0 g1
  refine own_st (fun t k => st159 t k) ?_
  show own_G _ _ _ _ _ _ _ (T159.setTop (mkF m 10 #[.val (.ref a1), .val (.ref x1)] []))
  have E_160 := E1.wr W159
  have fm_161 := Fm.same W159
  have fs_162 := Fs.other W159 (Or.inr (slot_ne (Or.inl (hw _ (List.mem_of_getElem? (i := 57) rfl))) (Or.inl (hw _ (List.mem_of_getElem? (i := 22) rfl))) (by decide) (t := .int) (t' := .int) (by decide) (by decide)))
  have fe_163 := Fe.other W159 (Or.inr (slot_ne (Or.inl (hw _ (List.mem_of_getElem? (i := 25) rfl))) (Or.inl (hw _ (List.mem_of_getElem? (i := 22) rfl))) (by decide) (t := (.array (.object "java/lang/Object"))) (t' := .int) (by decide) (by decide)))
  have X_164 := Ex.wr W159
  have V_165 := Vd.other W159 (Ne.symm nd)
  have Zz166 : n0 ≤ h159.size := Nat.le_trans Z0 (Keep.of_wr W159).1
  have Kk167 := (Keep.refl h0 [a1, d1]).wr W159 (Or.inl (List.mem_of_getElem? (i := 0) rfl))
  refine own_st (fun t k => XS.aloadN X159.here hx rfl (hb hby own_d32_10) rfl rfl k) ?_
  show own_G _ _ _ _ _ _ _ (T159.setTop (mkF m 11 #[.val (.ref a1), .val (.ref x1)] [(.ref a1)]))
  refine own_st (fun t k => XS.aloadN X159.here hx rfl (hb hby own_d32_11) rfl rfl k) ?_
  show own_G _ _ _ _ _ _ _ (T159.setTop (mkF m 12 #[.val (.ref a1), .val (.ref x1)] [(.ref x1), (.ref a1)]))
  refine own_st (fun t k => XS.aloadN X159.here hx rfl (hb hby own_d32_12) rfl rfl k) ?_
  show own_G _ _ _ _ _ _ _ (T159.setTop (mkF m 13 #[.val (.ref a1), .val (.ref x1)] [(.ref a1), (.ref x1), (.ref a1)]))
  obtain ⟨T168, X168, e168, st168⟩ := getF X159 hx hZ hown (host := "") (Or.inl (hw _ (List.mem_of_getElem? (i := 24) rfl))) Via.refl e159 fe_163 (g := (mkF m 13 #[.val (.ref a1), .val (.ref x1)] [(.ref a1), (.ref x1), (.ref a1)])) rfl rfl (hb hby own_d32_13)
  refine own_st (fun t k => st168 t k) ?_
  show own_G _ _ _ _ _ _ _ (T168.setTop (mkF m 16 #[.val (.ref a1), .val (.ref x1)] [(.ref d1), (.ref x1), (.ref a1)]))
  refine own_st (fun t k => XS.aloadN X168.here hx rfl (hb hby own_d32_16) rfl rfl k) ?_
  show own_G _ _ _ _ _ _ _ (T168.setTop (mkF m 17 #[.val (.ref a1), .val (.ref x1)] [(.ref a1), (.ref d1), (.ref x1), (.ref a1)]))
  obtain ⟨T169, X169, e169, st169⟩ := getF X168 hx hZ hown (host := "") (Or.inl (hw _ (List.mem_of_getElem? (i := 56) rfl))) Via.refl e168 fs_162 (g := (mkF m 17 #[.val (.ref a1), .val (.ref x1)] [(.ref a1), (.ref d1), (.ref x1), (.ref a1)])) rfl rfl (hb hby own_d32_17)
  refine own_st (fun t k => st169 t k) ?_
  show own_G _ _ _ _ _ _ _ (T169.setTop (mkF m 20 #[.val (.ref a1), .val (.ref x1)] [(.int (2 : Int32)), (.ref d1), (.ref x1), (.ref a1)]))
  obtain ⟨cq170, kq170, q170a, q170b, q170c⟩ := isOf hZ e169 E_160
  obtain ⟨cp170, qp170, qp170'⟩ := (E_160).cell
  obtain ⟨_, _, ⟨T170, L170, k170, n170⟩, -, X170, ⟨Lc170, hQ170, l170, y170, z170⟩, st170⟩ := X169.privateBack hx (y := (⟨"java/util/ArrayList", "add", "(Ljava/lang/Object;[Ljava/lang/Object;I)V"⟩ : MethodName)) hown (mvT hZ (hw _ (List.mem_of_getElem? (i := 72) rfl))) (mvT hZ (hw _ (List.mem_of_getElem? (i := 73) rfl))) (mvT hZ (hw _ (List.mem_of_getElem? (i := 75) rfl))) (Cond.privateMethod_at (mvP hZ (hw _ (List.mem_of_getElem? (i := 74) rfl)) (args := #[]))) (mvT hZ (hw _ (List.mem_of_getElem? (i := 76) rfl))) (by decide) (backOf (W := 0) (own_rm22 l Z a0 hw [] a1 b0 b1 x1 (mc + 1) d1 kd h159 n0 Zz166 E_160 fm_161 fs_162 fe_163 g1 V_165 Ov gd nd X_164) hZ (hw _ (List.mem_of_getElem? (i := 76) rfl)) (hw _ (List.mem_of_getElem? (i := 2) rfl)) (by decide) (by decide)) (g := (mkF m 20 #[.val (.ref a1), .val (.ref x1)] [(.int (2 : Int32)), (.ref d1), (.ref x1), (.ref a1)])) rfl (by rw [hml]; rfl) (Steps.refl _) (a := a1) (by rw [e169]; exact qp170) qp170' (argsL := [(.ref x1), (.ref d1), (.int (2 : Int32))]) (rest := []) (lenOf own_pd7 rfl) rfl (by show 2 * 0 + _ ≤ _; exact Nat.le_of_eq rfl) (hb hby own_d32_20) (fun _ _ => ⟨rfl, e169, (by decide : 0 + 0 ≤ _), (by decide : 0 + 0 ≤ _)⟩)
  dsimp only [Pt.U, Pt.locs, Pt.cells, Pt.slots] at X170 l170 y170 z170 st170 hQ170
  subst l170 y170 z170
  obtain ⟨rfl, N170q, K170, Ea170, Fa170, Fb170, Fc170, Vd170⟩ := hQ170
  have N170 := Fr.app N159 N170q
  refine own_st (fun t k => st170.trans k) ?_
  show own_G _ _ _ _ _ _ _ (T170.setTop (mkF m 23 #[.val (.ref a1), .val (.ref x1)] []))
  have Kz := Kk167.trans K170 (allS (Or.inl (List.mem_of_getElem? (i := 0) rfl)) (allS (Or.inl (List.mem_of_getElem? (i := 1) rfl)) all0))
  refine own_st (fun t k => XS.iconst X170.here hx rfl (hb hby own_d32_23) k) ?_
  show own_G _ _ _ _ _ _ _ (T170.setTop (mkF m 24 #[.val (.ref a1), .val (.ref x1)] [(.int (1 : Int32))]))
  exact own_retN (t := .boolean) (by simp) X170 hx Bd.returns (BodyLoose.notSynchronized Bd) (hb hby own_d32_24) (by decide) (by decide) ⟨rfl, N170, Kz, Ea170, Fa170, Fb170, Fc170, Vd170⟩
def own_Q23 (Z : State) (a1 : Addr) (b0 b1 b2 x1 : Addr) (mc : Int32) (d1 : Addr) (kd : ClassId) (h0 : Heap) (n0 : Nat) (v : Option Value) (h : Heap) (L : List Loc) : Prop := v = none ∧ Fr n0 L ∧ Keep h0 h [a1, d1] ∧ Exa Z h a1 "java/util/ArrayList" ∧ Fld Z h a1 "java/util/AbstractList" "modCount" "I" (.int mc) ∧ Fld Z h a1 "java/util/ArrayList" "size" "I" (.int 4) ∧ Fld Z h a1 "java/util/ArrayList" "elementData" "[Ljava/lang/Object;" (.ref d1) ∧ Arv Z h d1 kd (.object "java/lang/Object") 10 [.ref b0, .ref b1, .ref b2, .ref x1, .null, .null, .null, .null, .null, .null] .null
theorem own_d23_0 : decode jdk_38_method_24_code 0 = .ok (.iload_n 3, 1) := by decide +kernel
theorem own_d23_1 : decode jdk_38_method_24_code 1 = .ok (.aload_n 2, 1) := by decide +kernel
theorem own_d23_2 : decode jdk_38_method_24_code 2 = .ok (.arraylength, 1) := by decide +kernel
theorem own_d23_3 : decode jdk_38_method_24_code 3 = .ok (.if_icmp .ne 8, 3) := by decide +kernel
theorem own_d23_6 : decode jdk_38_method_24_code 6 = .ok (.aload_n 0, 1) := by decide +kernel
theorem own_d23_7 : decode jdk_38_method_24_code 7 = .ok (.invokevirtual 129, 3) := by decide +kernel
theorem own_d23_10 : decode jdk_38_method_24_code 10 = .ok (.astore_n 2, 1) := by decide +kernel
theorem own_d23_11 : decode jdk_38_method_24_code 11 = .ok (.aload_n 2, 1) := by decide +kernel
theorem own_d23_12 : decode jdk_38_method_24_code 12 = .ok (.iload_n 3, 1) := by decide +kernel
theorem own_d23_13 : decode jdk_38_method_24_code 13 = .ok (.aload_n 1, 1) := by decide +kernel
theorem own_d23_14 : decode jdk_38_method_24_code 14 = .ok (.aastore, 1) := by decide +kernel
theorem own_d23_15 : decode jdk_38_method_24_code 15 = .ok (.aload_n 0, 1) := by decide +kernel
theorem own_d23_16 : decode jdk_38_method_24_code 16 = .ok (.iload_n 3, 1) := by decide +kernel
theorem own_d23_17 : decode jdk_38_method_24_code 17 = .ok (.iconst 1, 1) := by decide +kernel
theorem own_d23_18 : decode jdk_38_method_24_code 18 = .ok (.iadd, 1) := by decide +kernel
theorem own_d23_19 : decode jdk_38_method_24_code 19 = .ok (.putfield 48, 3) := by decide +kernel
theorem own_d23_22 : decode jdk_38_method_24_code 22 = .ok (.return_, 1) := by decide +kernel
theorem own_ef23 (m : MethodId) (a1 : Addr) (x1 : Addr) (d1 : Addr) : entryFrame m #[(.ref a1), (.ref x1), (.ref d1), (.int (3 : Int32))] 4 = mkF m 0 #[.val (.ref a1), .val (.ref x1), .val (.ref d1), .val (.int (3 : Int32))] [] := by first | (simp [entryFrame, mkF, argsToLocals, Value.category]; done) | rfl
set_option maxRecDepth 65536 in
set_option maxHeartbeats 40000000 in
theorem own_rm23 (l : Launch) (Z : State) (a0 : Array Value) (hw : ∀ d ∈ tables_1, d.before a0 Z = true) (ws : List Jvm.Cond) (a1 : Addr) (b0 b1 b2 x1 : Addr) (mc : Int32) (d1 : Addr) (kd : ClassId) (h0 : Heap) (n0 : Nat) (Z0 : n0 ≤ h0.size) (E1 : Exa Z h0 a1 "java/util/ArrayList") (Fm : Fld Z h0 a1 "java/util/AbstractList" "modCount" "I" (.int mc)) (Fs : Fld Z h0 a1 "java/util/ArrayList" "size" "I" (.int 3)) (Fe : Fld Z h0 a1 "java/util/ArrayList" "elementData" "[Ljava/lang/Object;" (.ref d1)) (g1 : n0 ≤ a1) (Vd : Arv Z h0 d1 kd (.object "java/lang/Object") 10 [.ref b0, .ref b1, .ref b2, .null, .null, .null, .null, .null, .null, .null] .null) (Ov : Ovr Z kd "java/lang/Object") (gd : n0 ≤ d1) (nd : a1 ≠ d1) (Ex : Exa Z h0 x1 "java/lang/Integer") :
    MetFree l (⟨"java/util/ArrayList", "add", "(Ljava/lang/Object;[Ljava/lang/Object;I)V"⟩ : MethodName) (head1 (Jvm.Cond.code (⟨"java/util/ArrayList", "add", "(Ljava/lang/Object;[Ljava/lang/Object;I)V"⟩ : MethodName) jdk_38_method_24_code 4 none :: ws) ({ frames := 0, cells := 0, slots := 0, locals := 0 } : Room)) (fun a U => a = #[(.ref a1), (.ref x1), (.ref d1), (.int (3 : Int32))] ∧ Z.Warmed39 U.vm ∧ U.heap = h0) (fun _ _ _ _ _ => True) (fun _ U o U' => ∃ v L, o = .returned v ∧ own_Q23 Z a1 b0 b1 b2 x1 mc d1 kd h0 n0 v U'.heap L ∧ FrameEnd U o U' L ({ frames := 0, cells := 0, slots := 0, locals := 0 } : Room).cells ({ frames := 0, cells := 0, slots := 0, locals := 0 } : Room).slots) := by
  refine MetFree.of_bodySF (plainFor_of_name own_pn4) hisR ?_
  intro p e s m args below meth c s₁ Bd hml0 hP hK
  obtain ⟨rfl, hZ, hh⟩ := hP
  have hx := Bd.exec
  have hby := Bd.bytes
  have hml : c.maxLocals = 4 := hml0
  have hown : s.vm.findClass "java/util/ArrayList" = some m.cls := findClass_of_methodNamed Bd.named
  have hnm := (name_of_methodNamed Bd.named Bd.method).1
  have X0 : Stand p l e ({ frames := 0, cells := 0, slots := 0, locals := 0 } : Room) s m #[(.ref a1), (.ref x1), (.ref d1), (.int (3 : Int32))] below meth c s₁ [] 0 0 := Stand.of_body Bd
  have e0 : s₁.heap = h0 := by rw [← hh, Bd.state]; rfl
  have N0 := Fr.nil n0
  refine own_in (Q := own_Q23 Z a1 b0 b1 b2 x1 mc d1 kd h0 n0) ?_
  rw [own_ef23]
  show own_G _ _ _ _ _ _ _ (s₁.setTop (mkF m 0 #[.val (.ref a1), .val (.ref x1), .val (.ref d1), .val (.int (3 : Int32))] []))
  refine own_st (fun t k => XS.iloadN X0.here hx rfl (hb hby own_d23_0) rfl k) ?_
  show own_G _ _ _ _ _ _ _ (s₁.setTop (mkF m 1 #[.val (.ref a1), .val (.ref x1), .val (.ref d1), .val (.int (3 : Int32))] [(.int (3 : Int32))]))
  refine own_st (fun t k => XS.aloadN X0.here hx rfl (hb hby own_d23_1) rfl rfl k) ?_
  show own_G _ _ _ _ _ _ _ (s₁.setTop (mkF m 2 #[.val (.ref a1), .val (.ref x1), .val (.ref d1), .val (.int (3 : Int32))] [(.ref d1), (.int (3 : Int32))]))
  have Vd0 := Vd
  obtain ⟨cd, Ad, -, Sz, Mz, -, -⟩ := Vd0
  refine own_st (fun t k => X0.arraylength hx (by rw [e0]; exact Ad.1) (State.isArrayOf_alike hZ.alike Ad.2.1) (g := (mkF m 2 #[.val (.ref a1), .val (.ref x1), .val (.ref d1), .val (.int (3 : Int32))] [(.ref d1), (.int (3 : Int32))])) rfl rfl (hb hby own_d23_2) t k) ?_
  rw [len_of Sz Mz]
  show own_G _ _ _ _ _ _ _ (s₁.setTop (mkF m 3 #[.val (.ref a1), .val (.ref x1), .val (.ref d1), .val (.int (3 : Int32))] [(.int 10), (.int (3 : Int32))]))
  refine own_st (fun t k => XS.icmpYes X0.here hx rfl (pc0 := 3) (pc' := 11) rfl (hb hby own_d23_3) rfl (feq (by decide)).2 (by decide) (by decide) k) ?_
  show own_G _ _ _ _ _ _ _ (s₁.setTop (mkF m 11 #[.val (.ref a1), .val (.ref x1), .val (.ref d1), .val (.int (3 : Int32))] []))
  refine own_st (fun t k => XS.aloadN X0.here hx rfl (hb hby own_d23_11) rfl rfl k) ?_
  show own_G _ _ _ _ _ _ _ (s₁.setTop (mkF m 12 #[.val (.ref a1), .val (.ref x1), .val (.ref d1), .val (.int (3 : Int32))] [(.ref d1)]))
  refine own_st (fun t k => XS.iloadN X0.here hx rfl (hb hby own_d23_12) rfl k) ?_
  show own_G _ _ _ _ _ _ _ (s₁.setTop (mkF m 13 #[.val (.ref a1), .val (.ref x1), .val (.ref d1), .val (.int (3 : Int32))] [(.int (3 : Int32)), (.ref d1)]))
  refine own_st (fun t k => XS.aloadN X0.here hx rfl (hb hby own_d23_13) rfl rfl k) ?_
  show own_G _ _ _ _ _ _ _ (s₁.setTop (mkF m 14 #[.val (.ref a1), .val (.ref x1), .val (.ref d1), .val (.int (3 : Int32))] [(.ref x1), (.int (3 : Int32)), (.ref d1)]))
  obtain ⟨cl171, Ar171, q171, S171, M171, H171, G171⟩ := Vd
  have hin171 : ¬ ((3 : Int32) < 0 ∨ cl171.slots.size ≤ ((3 : Int32)).toNatClampNeg) := inb_of S171 ⟨by decide, by decide⟩
  obtain ⟨T172, h172, X172, e172, W172, st172⟩ := Jvm.RoadKit.stR X0 hx hZ e0 Ar171 (j := (3 : Int32)) hin171 rfl (Sto.ofV Ar171 q171 Ov (Ins.of_exa Ex (hw _ (List.mem_of_getElem? (i := 93) rfl)))) (g := (mkF m 14 #[.val (.ref a1), .val (.ref x1), .val (.ref d1), .val (.int (3 : Int32))] [(.ref x1), (.int (3 : Int32)), (.ref d1)])) rfl rfl (hb hby own_d23_14)
  have N172 := Fr.snoc X172 N0 gd
  refine own_st (fun t k => st172 t k) ?_
  show own_G _ _ _ _ _ _ _ (T172.setTop (mkF m 15 #[.val (.ref a1), .val (.ref x1), .val (.ref d1), .val (.int (3 : Int32))] []))
  have V_172 : Arv Z h172 d1 kd (.object "java/lang/Object") 10 [.ref b0, .ref b1, .ref b2, .ref x1, .null, .null, .null, .null, .null, .null] .null := Arv.set Ar171 q171 S171 M171 H171 G171 rfl W172 3 rfl (Nat.le_of_ble_eq_true rfl)
  have E_173 := E1.wr W172
  have fm_174 := Fm.other W172 (Or.inl nd)
  have fs_175 := Fs.other W172 (Or.inl nd)
  have fe_176 := Fe.other W172 (Or.inl nd)
  have X_177 := Ex.wr W172
  have Zz178 : n0 ≤ h172.size := Nat.le_trans Z0 (Keep.of_wr W172).1
  have Kk179 := (Keep.refl h0 [a1, d1]).wr W172 (Or.inl (List.mem_of_getElem? (i := 1) rfl))
  refine own_st (fun t k => XS.aloadN X172.here hx rfl (hb hby own_d23_15) rfl rfl k) ?_
  show own_G _ _ _ _ _ _ _ (T172.setTop (mkF m 16 #[.val (.ref a1), .val (.ref x1), .val (.ref d1), .val (.int (3 : Int32))] [(.ref a1)]))
  refine own_st (fun t k => XS.iloadN X172.here hx rfl (hb hby own_d23_16) rfl k) ?_
  show own_G _ _ _ _ _ _ _ (T172.setTop (mkF m 17 #[.val (.ref a1), .val (.ref x1), .val (.ref d1), .val (.int (3 : Int32))] [(.int (3 : Int32)), (.ref a1)]))
  refine own_st (fun t k => XS.iconst X172.here hx rfl (hb hby own_d23_17) k) ?_
  show own_G _ _ _ _ _ _ _ (T172.setTop (mkF m 18 #[.val (.ref a1), .val (.ref x1), .val (.ref d1), .val (.int (3 : Int32))] [(.int (1 : Int32)), (.int (3 : Int32)), (.ref a1)]))
  refine own_st (fun t k => XS.iadd X172.here hx rfl (hb hby own_d23_18) rfl k) ?_
  show own_G _ _ _ _ _ _ _ (T172.setTop (mkF m 19 #[.val (.ref a1), .val (.ref x1), .val (.ref d1), .val (.int (3 : Int32))] [(.int ((3 : Int32) + (1 : Int32))), (.ref a1)]))
  obtain ⟨T180, h180, X180, e180, W180, st180⟩ := putF X172 hx hZ hown (host := "") (Or.inl (hw _ (List.mem_of_getElem? (i := 56) rfl))) Via.refl e172 fs_175 E_173 (Or.inl (hw _ (List.mem_of_getElem? (i := 57) rfl))) (hw _ (List.mem_of_getElem? (i := 1) rfl)) (ty := .int) (by decide) rfl rfl (g := (mkF m 19 #[.val (.ref a1), .val (.ref x1), .val (.ref d1), .val (.int (3 : Int32))] [(.int ((3 : Int32) + (1 : Int32))), (.ref a1)])) rfl rfl (hb hby own_d23_19)
  have N180 := Fr.snoc X180 N172 g1
  refine own_st (fun t k => st180 t k) ?_
  show own_G _ _ _ _ _ _ _ (T180.setTop (mkF m 22 #[.val (.ref a1), .val (.ref x1), .val (.ref d1), .val (.int (3 : Int32))] []))
  have E_181 := E_173.wr W180
  have fm_182 := fm_174.other W180 (Or.inr (slot_ne (Or.inl (hw _ (List.mem_of_getElem? (i := 22) rfl))) (Or.inl (hw _ (List.mem_of_getElem? (i := 57) rfl))) (by decide) (t := .int) (t' := .int) (by decide) (by decide)))
  have fs_183 := fs_175.same W180
  have fe_184 := fe_176.other W180 (Or.inr (slot_ne (Or.inl (hw _ (List.mem_of_getElem? (i := 25) rfl))) (Or.inl (hw _ (List.mem_of_getElem? (i := 57) rfl))) (by decide) (t := (.array (.object "java/lang/Object"))) (t' := .int) (by decide) (by decide)))
  have X_185 := X_177.wr W180
  have V_186 := V_172.other W180 (Ne.symm nd)
  have Zz187 : n0 ≤ h180.size := Nat.le_trans Zz178 (Keep.of_wr W180).1
  have Kk188 := Kk179.wr W180 (Or.inl (List.mem_of_getElem? (i := 0) rfl))
  subst e180
  exact own_retV X180 hx Bd.returns (BodyLoose.notSynchronized Bd) (hb hby own_d23_22) (by decide) (by decide) ⟨rfl, N180, Kk188, E_181, fm_182, fs_183, fe_184, V_186⟩
def own_Q33 (Z : State) (a1 : Addr) (b0 b1 b2 x1 : Addr) (mc : Int32) (d1 : Addr) (kd : ClassId) (h0 : Heap) (n0 : Nat) (v : Option Value) (h : Heap) (L : List Loc) : Prop := v = some (.int 1) ∧ Fr n0 L ∧ Keep h0 h [a1, d1] ∧ Exa Z h a1 "java/util/ArrayList" ∧ Fld Z h a1 "java/util/AbstractList" "modCount" "I" (.int (mc + 1)) ∧ Fld Z h a1 "java/util/ArrayList" "size" "I" (.int 4) ∧ Fld Z h a1 "java/util/ArrayList" "elementData" "[Ljava/lang/Object;" (.ref d1) ∧ Arv Z h d1 kd (.object "java/lang/Object") 10 [.ref b0, .ref b1, .ref b2, .ref x1, .null, .null, .null, .null, .null, .null] .null
theorem own_d33_0 : decode jdk_38_method_25_code 0 = .ok (.aload_n 0, 1) := by decide +kernel
theorem own_d33_1 : decode jdk_38_method_25_code 1 = .ok (.dup, 1) := by decide +kernel
theorem own_d33_2 : decode jdk_38_method_25_code 2 = .ok (.getfield 63, 3) := by decide +kernel
theorem own_d33_5 : decode jdk_38_method_25_code 5 = .ok (.iconst 1, 1) := by decide +kernel
theorem own_d33_6 : decode jdk_38_method_25_code 6 = .ok (.iadd, 1) := by decide +kernel
theorem own_d33_7 : decode jdk_38_method_25_code 7 = .ok (.putfield 63, 3) := by decide +kernel
theorem own_d33_10 : decode jdk_38_method_25_code 10 = .ok (.aload_n 0, 1) := by decide +kernel
theorem own_d33_11 : decode jdk_38_method_25_code 11 = .ok (.aload_n 1, 1) := by decide +kernel
theorem own_d33_12 : decode jdk_38_method_25_code 12 = .ok (.aload_n 0, 1) := by decide +kernel
theorem own_d33_13 : decode jdk_38_method_25_code 13 = .ok (.getfield 9, 3) := by decide +kernel
theorem own_d33_16 : decode jdk_38_method_25_code 16 = .ok (.aload_n 0, 1) := by decide +kernel
theorem own_d33_17 : decode jdk_38_method_25_code 17 = .ok (.getfield 48, 3) := by decide +kernel
theorem own_d33_20 : decode jdk_38_method_25_code 20 = .ok (.invokevirtual 131, 3) := by decide +kernel
theorem own_d33_23 : decode jdk_38_method_25_code 23 = .ok (.iconst 1, 1) := by decide +kernel
theorem own_d33_24 : decode jdk_38_method_25_code 24 = .ok (.ireturn, 1) := by decide +kernel
theorem own_ef33 (m : MethodId) (a1 : Addr) (x1 : Addr) : entryFrame m #[(.ref a1), (.ref x1)] 2 = mkF m 0 #[.val (.ref a1), .val (.ref x1)] [] := by first | (simp [entryFrame, mkF, argsToLocals, Value.category]; done) | rfl
set_option maxRecDepth 65536 in
set_option maxHeartbeats 40000000 in
theorem own_rm33 (l : Launch) (Z : State) (a0 : Array Value) (hw : ∀ d ∈ tables_1, d.before a0 Z = true) (ws : List Jvm.Cond) (a1 : Addr) (b0 b1 b2 x1 : Addr) (mc : Int32) (d1 : Addr) (kd : ClassId) (h0 : Heap) (n0 : Nat) (Z0 : n0 ≤ h0.size) (E1 : Exa Z h0 a1 "java/util/ArrayList") (Fm : Fld Z h0 a1 "java/util/AbstractList" "modCount" "I" (.int mc)) (Fs : Fld Z h0 a1 "java/util/ArrayList" "size" "I" (.int 3)) (Fe : Fld Z h0 a1 "java/util/ArrayList" "elementData" "[Ljava/lang/Object;" (.ref d1)) (g1 : n0 ≤ a1) (Vd : Arv Z h0 d1 kd (.object "java/lang/Object") 10 [.ref b0, .ref b1, .ref b2, .null, .null, .null, .null, .null, .null, .null] .null) (Ov : Ovr Z kd "java/lang/Object") (gd : n0 ≤ d1) (nd : a1 ≠ d1) (Ex : Exa Z h0 x1 "java/lang/Integer") :
    MetFree l (⟨"java/util/ArrayList", "add", "(Ljava/lang/Object;)Z"⟩ : MethodName) (head1 (Jvm.Cond.code (⟨"java/util/ArrayList", "add", "(Ljava/lang/Object;)Z"⟩ : MethodName) jdk_38_method_25_code 2 (some .boolean) :: ws) ({ frames := 1, cells := 0, slots := 0, locals := 15 } : Room)) (fun a U => a = #[(.ref a1), (.ref x1)] ∧ Z.Warmed39 U.vm ∧ U.heap = h0) (fun _ _ _ _ _ => True) (fun _ U o U' => ∃ v L, o = .returned v ∧ own_Q33 Z a1 b0 b1 b2 x1 mc d1 kd h0 n0 v U'.heap L ∧ FrameEnd U o U' L ({ frames := 1, cells := 0, slots := 0, locals := 15 } : Room).cells ({ frames := 1, cells := 0, slots := 0, locals := 15 } : Room).slots) := by
  refine MetFree.of_bodySF (plainFor_of_name own_pn4) hisR ?_
  intro p e s m args below meth c s₁ Bd hml0 hP hK
  obtain ⟨rfl, hZ, hh⟩ := hP
  have hx := Bd.exec
  have hby := Bd.bytes
  have hml : c.maxLocals = 2 := hml0
  have hown : s.vm.findClass "java/util/ArrayList" = some m.cls := findClass_of_methodNamed Bd.named
  have hnm := (name_of_methodNamed Bd.named Bd.method).1
  have X0 : Stand p l e ({ frames := 1, cells := 0, slots := 0, locals := 15 } : Room) s m #[(.ref a1), (.ref x1)] below meth c s₁ [] 0 0 := Stand.of_body Bd
  have e0 : s₁.heap = h0 := by rw [← hh, Bd.state]; rfl
  have N0 := Fr.nil n0
  refine own_in (Q := own_Q33 Z a1 b0 b1 b2 x1 mc d1 kd h0 n0) ?_
  rw [own_ef33]
  show own_G _ _ _ _ _ _ _ (s₁.setTop (mkF m 0 #[.val (.ref a1), .val (.ref x1)] []))
  refine own_st (fun t k => XS.aloadN X0.here hx rfl (hb hby own_d33_0) rfl rfl k) ?_
  show own_G _ _ _ _ _ _ _ (s₁.setTop (mkF m 1 #[.val (.ref a1), .val (.ref x1)] [(.ref a1)]))
  refine own_st (fun t k => XS.dup X0.here hx rfl (hb hby own_d33_1) rfl rfl k) ?_
  show own_G _ _ _ _ _ _ _ (s₁.setTop (mkF m 2 #[.val (.ref a1), .val (.ref x1)] [(.ref a1), (.ref a1)]))
  obtain ⟨T189, X189, e189, st189⟩ := getF X0 hx hZ hown (host := "") (Or.inl (hw _ (List.mem_of_getElem? (i := 70) rfl))) (Via.of (hw _ (List.mem_of_getElem? (i := 71) rfl))) e0 Fm (g := (mkF m 2 #[.val (.ref a1), .val (.ref x1)] [(.ref a1), (.ref a1)])) rfl rfl (hb hby own_d33_2)
  refine own_st (fun t k => st189 t k) ?_
  show own_G _ _ _ _ _ _ _ (T189.setTop (mkF m 5 #[.val (.ref a1), .val (.ref x1)] [(.int mc), (.ref a1)]))
  refine own_st (fun t k => XS.iconst X189.here hx rfl (hb hby own_d33_5) k) ?_
  show own_G _ _ _ _ _ _ _ (T189.setTop (mkF m 6 #[.val (.ref a1), .val (.ref x1)] [(.int (1 : Int32)), (.int mc), (.ref a1)]))
  refine own_st (fun t k => XS.iadd X189.here hx rfl (hb hby own_d33_6) rfl k) ?_
  show own_G _ _ _ _ _ _ _ (T189.setTop (mkF m 7 #[.val (.ref a1), .val (.ref x1)] [(.int (mc + (1 : Int32))), (.ref a1)]))
  obtain ⟨T190, h190, X190, e190, W190, st190⟩ := putF X189 hx hZ hown (host := "") (Or.inl (hw _ (List.mem_of_getElem? (i := 70) rfl))) (Via.of (hw _ (List.mem_of_getElem? (i := 71) rfl))) e189 Fm E1 (Or.inl (hw _ (List.mem_of_getElem? (i := 22) rfl))) (hw _ (List.mem_of_getElem? (i := 1) rfl)) (ty := .int) (by decide) rfl rfl (g := (mkF m 7 #[.val (.ref a1), .val (.ref x1)] [(.int (mc + (1 : Int32))), (.ref a1)])) rfl rfl (hb hby own_d33_7)
  have N190 := Fr.snoc X190 N0 g1
  refine own_st (fun t k => st190 t k) ?_
  show own_G _ _ _ _ _ _ _ (T190.setTop (mkF m 10 #[.val (.ref a1), .val (.ref x1)] []))
  have E_191 := E1.wr W190
  have fm_192 := Fm.same W190
  have fs_193 := Fs.other W190 (Or.inr (slot_ne (Or.inl (hw _ (List.mem_of_getElem? (i := 57) rfl))) (Or.inl (hw _ (List.mem_of_getElem? (i := 22) rfl))) (by decide) (t := .int) (t' := .int) (by decide) (by decide)))
  have fe_194 := Fe.other W190 (Or.inr (slot_ne (Or.inl (hw _ (List.mem_of_getElem? (i := 25) rfl))) (Or.inl (hw _ (List.mem_of_getElem? (i := 22) rfl))) (by decide) (t := (.array (.object "java/lang/Object"))) (t' := .int) (by decide) (by decide)))
  have X_195 := Ex.wr W190
  have V_196 := Vd.other W190 (Ne.symm nd)
  have Zz197 : n0 ≤ h190.size := Nat.le_trans Z0 (Keep.of_wr W190).1
  have Kk198 := (Keep.refl h0 [a1, d1]).wr W190 (Or.inl (List.mem_of_getElem? (i := 0) rfl))
  refine own_st (fun t k => XS.aloadN X190.here hx rfl (hb hby own_d33_10) rfl rfl k) ?_
  show own_G _ _ _ _ _ _ _ (T190.setTop (mkF m 11 #[.val (.ref a1), .val (.ref x1)] [(.ref a1)]))
  refine own_st (fun t k => XS.aloadN X190.here hx rfl (hb hby own_d33_11) rfl rfl k) ?_
  show own_G _ _ _ _ _ _ _ (T190.setTop (mkF m 12 #[.val (.ref a1), .val (.ref x1)] [(.ref x1), (.ref a1)]))
  refine own_st (fun t k => XS.aloadN X190.here hx rfl (hb hby own_d33_12) rfl rfl k) ?_
  show own_G _ _ _ _ _ _ _ (T190.setTop (mkF m 13 #[.val (.ref a1), .val (.ref x1)] [(.ref a1), (.ref x1), (.ref a1)]))
  obtain ⟨T199, X199, e199, st199⟩ := getF X190 hx hZ hown (host := "") (Or.inl (hw _ (List.mem_of_getElem? (i := 24) rfl))) Via.refl e190 fe_194 (g := (mkF m 13 #[.val (.ref a1), .val (.ref x1)] [(.ref a1), (.ref x1), (.ref a1)])) rfl rfl (hb hby own_d33_13)
  refine own_st (fun t k => st199 t k) ?_
  show own_G _ _ _ _ _ _ _ (T199.setTop (mkF m 16 #[.val (.ref a1), .val (.ref x1)] [(.ref d1), (.ref x1), (.ref a1)]))
  refine own_st (fun t k => XS.aloadN X199.here hx rfl (hb hby own_d33_16) rfl rfl k) ?_
  show own_G _ _ _ _ _ _ _ (T199.setTop (mkF m 17 #[.val (.ref a1), .val (.ref x1)] [(.ref a1), (.ref d1), (.ref x1), (.ref a1)]))
  obtain ⟨T200, X200, e200, st200⟩ := getF X199 hx hZ hown (host := "") (Or.inl (hw _ (List.mem_of_getElem? (i := 56) rfl))) Via.refl e199 fs_193 (g := (mkF m 17 #[.val (.ref a1), .val (.ref x1)] [(.ref a1), (.ref d1), (.ref x1), (.ref a1)])) rfl rfl (hb hby own_d33_17)
  refine own_st (fun t k => st200 t k) ?_
  show own_G _ _ _ _ _ _ _ (T200.setTop (mkF m 20 #[.val (.ref a1), .val (.ref x1)] [(.int (3 : Int32)), (.ref d1), (.ref x1), (.ref a1)]))
  obtain ⟨cq201, kq201, q201a, q201b, q201c⟩ := isOf hZ e200 E_191
  obtain ⟨cp201, qp201, qp201'⟩ := (E_191).cell
  obtain ⟨_, _, ⟨T201, L201, k201, n201⟩, -, X201, ⟨Lc201, hQ201, l201, y201, z201⟩, st201⟩ := X200.privateBack hx (y := (⟨"java/util/ArrayList", "add", "(Ljava/lang/Object;[Ljava/lang/Object;I)V"⟩ : MethodName)) hown (mvT hZ (hw _ (List.mem_of_getElem? (i := 72) rfl))) (mvT hZ (hw _ (List.mem_of_getElem? (i := 73) rfl))) (mvT hZ (hw _ (List.mem_of_getElem? (i := 75) rfl))) (Cond.privateMethod_at (mvP hZ (hw _ (List.mem_of_getElem? (i := 74) rfl)) (args := #[]))) (mvT hZ (hw _ (List.mem_of_getElem? (i := 76) rfl))) (by decide) (backOf (W := 0) (own_rm23 l Z a0 hw [] a1 b0 b1 b2 x1 (mc + 1) d1 kd h190 n0 Zz197 E_191 fm_192 fs_193 fe_194 g1 V_196 Ov gd nd X_195) hZ (hw _ (List.mem_of_getElem? (i := 76) rfl)) (hw _ (List.mem_of_getElem? (i := 2) rfl)) (by decide) (by decide)) (g := (mkF m 20 #[.val (.ref a1), .val (.ref x1)] [(.int (3 : Int32)), (.ref d1), (.ref x1), (.ref a1)])) rfl (by rw [hml]; rfl) (Steps.refl _) (a := a1) (by rw [e200]; exact qp201) qp201' (argsL := [(.ref x1), (.ref d1), (.int (3 : Int32))]) (rest := []) (lenOf own_pd7 rfl) rfl (by show 2 * 0 + _ ≤ _; exact Nat.le_of_eq rfl) (hb hby own_d33_20) (fun _ _ => ⟨rfl, e200, (by decide : 0 + 0 ≤ _), (by decide : 0 + 0 ≤ _)⟩)
  dsimp only [Pt.U, Pt.locs, Pt.cells, Pt.slots] at X201 l201 y201 z201 st201 hQ201
  subst l201 y201 z201
  obtain ⟨rfl, N201q, K201, Ea201, Fa201, Fb201, Fc201, Vd201⟩ := hQ201
  have N201 := Fr.app N190 N201q
  refine own_st (fun t k => st201.trans k) ?_
  show own_G _ _ _ _ _ _ _ (T201.setTop (mkF m 23 #[.val (.ref a1), .val (.ref x1)] []))
  have Kz := Kk198.trans K201 (allS (Or.inl (List.mem_of_getElem? (i := 0) rfl)) (allS (Or.inl (List.mem_of_getElem? (i := 1) rfl)) all0))
  refine own_st (fun t k => XS.iconst X201.here hx rfl (hb hby own_d33_23) k) ?_
  show own_G _ _ _ _ _ _ _ (T201.setTop (mkF m 24 #[.val (.ref a1), .val (.ref x1)] [(.int (1 : Int32))]))
  exact own_retN (t := .boolean) (by simp) X201 hx Bd.returns (BodyLoose.notSynchronized Bd) (hb hby own_d33_24) (by decide) (by decide) ⟨rfl, N201, Kz, Ea201, Fa201, Fb201, Fc201, Vd201⟩
def own_Q40 (Z : State) (a1 l1 : Addr) (p1 : Int32) (h0 : Heap) (n0 : Nat) (v : Option Value) (h : Heap) (L : List Loc) : Prop := v = none ∧ Fr n0 L ∧ Keep h0 h [a1] ∧ Exa Z h a1 "com/example/strigine/strigine/Roles$Chain" ∧ Fld Z h a1 "com/example/strigine/strigine/Roles$Chain" "roles" "Ljava/util/List;" (.ref l1) ∧ Fld Z h a1 "com/example/strigine/strigine/Roles$Chain" "sup" "I" (.int p1)
theorem own_pn8 : plainName "com/example/strigine/strigine/Roles$Chain" = true := by first | (simp [plainName, overriddenIn]; done) | decide +kernel
theorem own_d40_0 : decode prog_12_method_1_code 0 = .ok (.aload_n 0, 1) := by decide +kernel
theorem own_d40_1 : decode prog_12_method_1_code 1 = .ok (.invokespecial 1, 3) := by decide +kernel
theorem own_d40_4 : decode prog_12_method_1_code 4 = .ok (.aload_n 0, 1) := by decide +kernel
theorem own_d40_5 : decode prog_12_method_1_code 5 = .ok (.aload_n 1, 1) := by decide +kernel
theorem own_d40_6 : decode prog_12_method_1_code 6 = .ok (.putfield 7, 3) := by decide +kernel
theorem own_d40_9 : decode prog_12_method_1_code 9 = .ok (.aload_n 0, 1) := by decide +kernel
theorem own_d40_10 : decode prog_12_method_1_code 10 = .ok (.iload_n 2, 1) := by decide +kernel
theorem own_d40_11 : decode prog_12_method_1_code 11 = .ok (.putfield 13, 3) := by decide +kernel
theorem own_d40_14 : decode prog_12_method_1_code 14 = .ok (.return_, 1) := by decide +kernel
theorem own_ef40 (m : MethodId) (a1 : Addr) (l1 : Addr) (p1 : Int32) : entryFrame m #[(.ref a1), (.ref l1), (.int p1)] 3 = mkF m 0 #[.val (.ref a1), .val (.ref l1), .val (.int p1)] [] := by first | (simp [entryFrame, mkF, argsToLocals, Value.category]; done) | rfl
set_option maxRecDepth 65536 in
set_option maxHeartbeats 40000000 in
theorem own_rm40 (l : Launch) (Z : State) (a0 : Array Value) (hw : ∀ d ∈ tables_1, d.before a0 Z = true) (ws : List Jvm.Cond) (a1 l1 : Addr) (p1 : Int32) (h0 : Heap) (n0 : Nat) (Z0 : n0 ≤ h0.size) (E1 : Exa Z h0 a1 "com/example/strigine/strigine/Roles$Chain") (F1 : Fld Z h0 a1 "com/example/strigine/strigine/Roles$Chain" "roles" "Ljava/util/List;" .null) (F2 : Fld Z h0 a1 "com/example/strigine/strigine/Roles$Chain" "sup" "I" (.int 0)) (g1 : n0 ≤ a1) :
    MetFree l (⟨"com/example/strigine/strigine/Roles$Chain", "<init>", "(Ljava/util/List;I)V"⟩ : MethodName) (head1 (Jvm.Cond.code (⟨"com/example/strigine/strigine/Roles$Chain", "<init>", "(Ljava/util/List;I)V"⟩ : MethodName) prog_12_method_1_code 3 none :: ws) ({ frames := 2, cells := 0, slots := 0, locals := 24 } : Room)) (fun a U => a = #[(.ref a1), (.ref l1), (.int p1)] ∧ Z.Warmed39 U.vm ∧ U.heap = h0) (fun _ _ _ _ _ => True) (fun _ U o U' => ∃ v L, o = .returned v ∧ own_Q40 Z a1 l1 p1 h0 n0 v U'.heap L ∧ FrameEnd U o U' L ({ frames := 2, cells := 0, slots := 0, locals := 24 } : Room).cells ({ frames := 2, cells := 0, slots := 0, locals := 24 } : Room).slots) := by
  refine MetFree.of_bodySF (plainFor_of_name own_pn8) hisR ?_
  intro p e s m args below meth c s₁ Bd hml0 hP hK
  obtain ⟨rfl, hZ, hh⟩ := hP
  have hx := Bd.exec
  have hby := Bd.bytes
  have hml : c.maxLocals = 3 := hml0
  have hown : s.vm.findClass "com/example/strigine/strigine/Roles$Chain" = some m.cls := findClass_of_methodNamed Bd.named
  have hnm := (name_of_methodNamed Bd.named Bd.method).1
  have X0 : Stand p l e ({ frames := 2, cells := 0, slots := 0, locals := 24 } : Room) s m #[(.ref a1), (.ref l1), (.int p1)] below meth c s₁ [] 0 0 := Stand.of_body Bd
  have e0 : s₁.heap = h0 := by rw [← hh, Bd.state]; rfl
  have N0 := Fr.nil n0
  refine own_in (Q := own_Q40 Z a1 l1 p1 h0 n0) ?_
  rw [own_ef40]
  show own_G _ _ _ _ _ _ _ (s₁.setTop (mkF m 0 #[.val (.ref a1), .val (.ref l1), .val (.int p1)] []))
  refine own_st (fun t k => XS.aloadN X0.here hx rfl (hb hby own_d40_0) rfl rfl k) ?_
  show own_G _ _ _ _ _ _ _ (s₁.setTop (mkF m 1 #[.val (.ref a1), .val (.ref l1), .val (.int p1)] [(.ref a1)]))
  obtain ⟨_, _, ⟨T202, L202, k202, n202⟩, -, X202, ⟨Lc202, hQ202, l202, y202, z202⟩, st202⟩ := X0.specialBack hx (y := (⟨"java/lang/Record", "<init>", "()V"⟩ : MethodName)) rfl hown (mvT hZ (hw _ (List.mem_of_getElem? (i := 32) rfl))) (mvT hZ (hw _ (List.mem_of_getElem? (i := 33) rfl))) (mvT hZ (hw _ (List.mem_of_getElem? (i := 36) rfl))) (by decide) (backOf (W := 0) (own_rm3 l Z a0 hw [] a1 h0 n0 Z0) hZ (hw _ (List.mem_of_getElem? (i := 36) rfl)) (hw _ (List.mem_of_getElem? (i := 35) rfl)) (by decide) (by decide)) (g := (mkF m 1 #[.val (.ref a1), .val (.ref l1), .val (.int p1)] [(.ref a1)])) rfl (by rw [hml]; rfl) (Steps.refl _) (a := a1) (argsL := []) (rest := []) (lenOf own_pd1 rfl) rfl (by show 2 * 0 + _ ≤ _; exact Nat.le_of_eq rfl) (hb hby own_d40_1) (fun _ _ => ⟨rfl, e0, (by decide : 0 + 0 ≤ _), (by decide : 0 + 0 ≤ _)⟩)
  dsimp only [Pt.U, Pt.locs, Pt.cells, Pt.slots] at X202 l202 y202 z202 st202 hQ202
  subst l202 y202 z202
  obtain ⟨rfl, N202q, e202⟩ := hQ202
  have N202 := Fr.app N0 N202q
  refine own_st (fun t k => st202.trans k) ?_
  show own_G _ _ _ _ _ _ _ (T202.setTop (mkF m 4 #[.val (.ref a1), .val (.ref l1), .val (.int p1)] []))
  refine own_st (fun t k => XS.aloadN X202.here hx rfl (hb hby own_d40_4) rfl rfl k) ?_
  show own_G _ _ _ _ _ _ _ (T202.setTop (mkF m 5 #[.val (.ref a1), .val (.ref l1), .val (.int p1)] [(.ref a1)]))
  refine own_st (fun t k => XS.aloadN X202.here hx rfl (hb hby own_d40_5) rfl rfl k) ?_
  show own_G _ _ _ _ _ _ _ (T202.setTop (mkF m 6 #[.val (.ref a1), .val (.ref l1), .val (.int p1)] [(.ref l1), (.ref a1)]))
  obtain ⟨T203, h203, X203, e203, W203, st203⟩ := putF X202 hx hZ hown (host := "") (Or.inl (hw _ (List.mem_of_getElem? (i := 38) rfl))) Via.refl e202 F1 E1 (Or.inr ⟨(hw _ (List.mem_of_getElem? (i := 39) rfl)), rfl, hnm⟩) (hw _ (List.mem_of_getElem? (i := 27) rfl)) (ty := (.object "java/util/List")) (by decide) rfl rfl (g := (mkF m 6 #[.val (.ref a1), .val (.ref l1), .val (.int p1)] [(.ref l1), (.ref a1)])) rfl rfl (hb hby own_d40_6)
  have N203 := Fr.snoc X203 N202 g1
  refine own_st (fun t k => st203 t k) ?_
  show own_G _ _ _ _ _ _ _ (T203.setTop (mkF m 9 #[.val (.ref a1), .val (.ref l1), .val (.int p1)] []))
  have E_204 := E1.wr W203
  have f1_205 := F1.same W203
  have f2_206 := F2.other W203 (Or.inr (slot_ne (Or.inr (hw _ (List.mem_of_getElem? (i := 41) rfl))) (Or.inr (hw _ (List.mem_of_getElem? (i := 39) rfl))) (by decide) (t := .int) (t' := (.object "java/util/List")) (by decide) (by decide)))
  have Zz207 : n0 ≤ h203.size := Nat.le_trans Z0 (Keep.of_wr W203).1
  have Kk208 := (Keep.refl h0 [a1]).wr W203 (Or.inl (List.mem_of_getElem? (i := 0) rfl))
  refine own_st (fun t k => XS.aloadN X203.here hx rfl (hb hby own_d40_9) rfl rfl k) ?_
  show own_G _ _ _ _ _ _ _ (T203.setTop (mkF m 10 #[.val (.ref a1), .val (.ref l1), .val (.int p1)] [(.ref a1)]))
  refine own_st (fun t k => XS.iloadN X203.here hx rfl (hb hby own_d40_10) rfl k) ?_
  show own_G _ _ _ _ _ _ _ (T203.setTop (mkF m 11 #[.val (.ref a1), .val (.ref l1), .val (.int p1)] [(.int p1), (.ref a1)]))
  obtain ⟨T209, h209, X209, e209, W209, st209⟩ := putF X203 hx hZ hown (host := "") (Or.inl (hw _ (List.mem_of_getElem? (i := 40) rfl))) Via.refl e203 f2_206 E_204 (Or.inr ⟨(hw _ (List.mem_of_getElem? (i := 41) rfl)), rfl, hnm⟩) (hw _ (List.mem_of_getElem? (i := 27) rfl)) (ty := .int) (by decide) rfl rfl (g := (mkF m 11 #[.val (.ref a1), .val (.ref l1), .val (.int p1)] [(.int p1), (.ref a1)])) rfl rfl (hb hby own_d40_11)
  have N209 := Fr.snoc X209 N203 g1
  refine own_st (fun t k => st209 t k) ?_
  show own_G _ _ _ _ _ _ _ (T209.setTop (mkF m 14 #[.val (.ref a1), .val (.ref l1), .val (.int p1)] []))
  have E_210 := E_204.wr W209
  have f1_211 := f1_205.other W209 (Or.inr (slot_ne (Or.inr (hw _ (List.mem_of_getElem? (i := 39) rfl))) (Or.inr (hw _ (List.mem_of_getElem? (i := 41) rfl))) (by decide) (t := (.object "java/util/List")) (t' := .int) (by decide) (by decide)))
  have f2_212 := f2_206.same W209
  have Zz213 : n0 ≤ h209.size := Nat.le_trans Zz207 (Keep.of_wr W209).1
  have Kk214 := Kk208.wr W209 (Or.inl (List.mem_of_getElem? (i := 0) rfl))
  subst e209
  exact own_retV X209 hx Bd.returns (BodyLoose.notSynchronized Bd) (hb hby own_d40_14) (by decide) (by decide) ⟨rfl, N209, Kk214, E_210, f1_211, f2_212⟩
theorem own_d41_0 : decode prog_12_method_2_code 0 = .ok (.aload_n 0, 1) := by decide +kernel
theorem own_d41_1 : decode prog_12_method_2_code 1 = .ok (.getfield 7, 3) := by decide +kernel
theorem own_d41_4 : decode prog_12_method_2_code 4 = .ok (.invokeinterface 17 1, 5) := by decide +kernel
theorem own_d41_9 : decode prog_12_method_2_code 9 = .ok (.iconst 2, 1) := by decide +kernel
theorem own_d41_10 : decode prog_12_method_2_code 10 = .ok (.if_icmp .ne 53, 3) := by decide +kernel
theorem own_d41_13 : decode prog_12_method_2_code 13 = .ok (.aload_n 0, 1) := by decide +kernel
theorem own_d41_14 : decode prog_12_method_2_code 14 = .ok (.getfield 7, 3) := by decide +kernel
theorem own_d41_17 : decode prog_12_method_2_code 17 = .ok (.iconst 0, 1) := by decide +kernel
theorem own_d41_18 : decode prog_12_method_2_code 18 = .ok (.invokeinterface 23 2, 5) := by decide +kernel
theorem own_d41_23 : decode prog_12_method_2_code 23 = .ok (.checkcast 27, 3) := by decide +kernel
theorem own_d41_26 : decode prog_12_method_2_code 26 = .ok (.invokevirtual 29, 3) := by decide +kernel
theorem own_d41_29 : decode prog_12_method_2_code 29 = .ok (.aload_n 0, 1) := by decide +kernel
theorem own_d41_30 : decode prog_12_method_2_code 30 = .ok (.getfield 13, 3) := by decide +kernel
theorem own_d41_33 : decode prog_12_method_2_code 33 = .ok (.if_icmp .ne 30, 3) := by decide +kernel
theorem own_d41_36 : decode prog_12_method_2_code 36 = .ok (.aload_n 0, 1) := by decide +kernel
theorem own_d41_37 : decode prog_12_method_2_code 37 = .ok (.getfield 7, 3) := by decide +kernel
theorem own_d41_40 : decode prog_12_method_2_code 40 = .ok (.iconst 1, 1) := by decide +kernel
theorem own_d41_41 : decode prog_12_method_2_code 41 = .ok (.invokeinterface 23 2, 5) := by decide +kernel
theorem own_d41_46 : decode prog_12_method_2_code 46 = .ok (.checkcast 27, 3) := by decide +kernel
theorem own_d41_49 : decode prog_12_method_2_code 49 = .ok (.invokevirtual 29, 3) := by decide +kernel
theorem own_d41_52 : decode prog_12_method_2_code 52 = .ok (.aload_n 0, 1) := by decide +kernel
theorem own_d41_53 : decode prog_12_method_2_code 53 = .ok (.getfield 13, 3) := by decide +kernel
theorem own_d41_56 : decode prog_12_method_2_code 56 = .ok (.if_icmp .ne 7, 3) := by decide +kernel
theorem own_d41_59 : decode prog_12_method_2_code 59 = .ok (.iconst 1, 1) := by decide +kernel
theorem own_d41_60 : decode prog_12_method_2_code 60 = .ok (.goto 4, 3) := by decide +kernel
theorem own_d41_63 : decode prog_12_method_2_code 63 = .ok (.iconst 0, 1) := by decide +kernel
theorem own_d41_64 : decode prog_12_method_2_code 64 = .ok (.ireturn, 1) := by decide +kernel
theorem own_ef41 (m : MethodId) (a1 : Addr) : entryFrame m #[(.ref a1)] 1 = mkF m 0 #[.val (.ref a1)] [] := by first | (simp [entryFrame, mkF, argsToLocals, Value.category]; done) | rfl
set_option maxRecDepth 65536 in
set_option maxHeartbeats 40000000 in
theorem own_rm41 (l : Launch) (Z : State) (a0 : Array Value) (hw : ∀ d ∈ tables_1, d.before a0 Z = true) (ws : List Jvm.Cond) (a1 l1 : Addr) (p1 sz : Int32) (h0 : Heap) (n0 : Nat) (Z0 : n0 ≤ h0.size) (F1 : Fld Z h0 a1 "com/example/strigine/strigine/Roles$Chain" "roles" "Ljava/util/List;" (.ref l1)) (F2 : Fld Z h0 a1 "com/example/strigine/strigine/Roles$Chain" "sup" "I" (.int p1)) (El : Exa Z h0 l1 "java/util/ArrayList") (Fs : Fld Z h0 l1 "java/util/ArrayList" "size" "I" (.int sz)) (hn : ¬ sz = 2) :
    MetFree l (⟨"com/example/strigine/strigine/Roles$Chain", "isTransitivity", "()Z"⟩ : MethodName) (head1 (Jvm.Cond.code (⟨"com/example/strigine/strigine/Roles$Chain", "isTransitivity", "()Z"⟩ : MethodName) prog_12_method_2_code 1 (some .boolean) :: ws) ({ frames := 1, cells := 0, slots := 0, locals := 12 } : Room)) (fun a U => a = #[(.ref a1)] ∧ Z.Warmed39 U.vm ∧ U.heap = h0) (fun _ _ _ _ _ => True) (fun _ U o U' => ∃ v L, o = .returned v ∧ own_Qp (some (.int 0)) h0 n0 v U'.heap L ∧ FrameEnd U o U' L ({ frames := 1, cells := 0, slots := 0, locals := 12 } : Room).cells ({ frames := 1, cells := 0, slots := 0, locals := 12 } : Room).slots) := by
  refine MetFree.of_bodySF (plainFor_of_name own_pn8) hisR ?_
  intro p e s m args below meth c s₁ Bd hml0 hP hK
  obtain ⟨rfl, hZ, hh⟩ := hP
  have hx := Bd.exec
  have hby := Bd.bytes
  have hml : c.maxLocals = 1 := hml0
  have hown : s.vm.findClass "com/example/strigine/strigine/Roles$Chain" = some m.cls := findClass_of_methodNamed Bd.named
  have hnm := (name_of_methodNamed Bd.named Bd.method).1
  have X0 : Stand p l e ({ frames := 1, cells := 0, slots := 0, locals := 12 } : Room) s m #[(.ref a1)] below meth c s₁ [] 0 0 := Stand.of_body Bd
  have e0 : s₁.heap = h0 := by rw [← hh, Bd.state]; rfl
  have N0 := Fr.nil n0
  refine own_in (Q := own_Qp (some (.int 0)) h0 n0) ?_
  rw [own_ef41]
  show own_G _ _ _ _ _ _ _ (s₁.setTop (mkF m 0 #[.val (.ref a1)] []))
  refine own_st (fun t k => XS.aloadN X0.here hx rfl (hb hby own_d41_0) rfl rfl k) ?_
  show own_G _ _ _ _ _ _ _ (s₁.setTop (mkF m 1 #[.val (.ref a1)] [(.ref a1)]))
  obtain ⟨T215, X215, e215, st215⟩ := getF X0 hx hZ hown (host := "") (Or.inl (hw _ (List.mem_of_getElem? (i := 38) rfl))) Via.refl e0 F1 (g := (mkF m 1 #[.val (.ref a1)] [(.ref a1)])) rfl rfl (hb hby own_d41_1)
  refine own_st (fun t k => st215 t k) ?_
  show own_G _ _ _ _ _ _ _ (T215.setTop (mkF m 4 #[.val (.ref a1)] [(.ref l1)]))
  obtain ⟨cq216, kq216, q216a, q216b, q216c⟩ := isOf hZ e215 El
  obtain ⟨_, _, ⟨T216, L216, k216, n216⟩, -, X216, ⟨Lc216, hQ216, l216, y216, z216⟩, st216⟩ := X215.interfaceBack hx (xi := (⟨"java/util/List", "size", "()I"⟩ : MethodName)) (y := (⟨"java/util/ArrayList", "size", "()I"⟩ : MethodName)) hown (mvT hZ (hw _ (List.mem_of_getElem? (i := 47) rfl))) (mvT hZ (hw _ (List.mem_of_getElem? (i := 48) rfl))) (mvT hZ (hw _ (List.mem_of_getElem? (i := 49) rfl))) (mvT hZ (hw _ (List.mem_of_getElem? (i := 50) rfl))) (mvT hZ (hw _ (List.mem_of_getElem? (i := 51) rfl))) (mvT hZ (hw _ (List.mem_of_getElem? (i := 52) rfl))) (mvT hZ (hw _ (List.mem_of_getElem? (i := 53) rfl))) (mvT hZ (hw _ (List.mem_of_getElem? (i := 54) rfl))) (by decide) (backOf (W := 0) (own_rm9 l Z a0 hw [] l1 sz h0 n0 Z0 Fs) hZ (hw _ (List.mem_of_getElem? (i := 55) rfl)) (hw _ (List.mem_of_getElem? (i := 2) rfl)) (by decide) (by decide)) q216a q216b q216c (g := (mkF m 4 #[.val (.ref a1)] [(.ref l1)])) rfl (by rw [hml]; rfl) (Steps.refl _) (argsL := []) (rest := []) (lenOf own_pd4 rfl) rfl (by show 2 * 0 + _ ≤ _; exact Nat.le_of_eq rfl) (hb hby own_d41_4) (fun _ _ => ⟨rfl, e215, (by decide : 0 + 0 ≤ _), (by decide : 0 + 0 ≤ _)⟩)
  dsimp only [Pt.U, Pt.locs, Pt.cells, Pt.slots] at X216 l216 y216 z216 st216 hQ216
  subst l216 y216 z216
  obtain ⟨rfl, N216q, e216⟩ := hQ216
  have N216 := Fr.app N0 N216q
  refine own_st (fun t k => st216.trans k) ?_
  show own_G _ _ _ _ _ _ _ (T216.setTop (mkF m 9 #[.val (.ref a1)] [(.int sz)]))
  refine own_st (fun t k => XS.iconst X216.here hx rfl (hb hby own_d41_9) k) ?_
  show own_G _ _ _ _ _ _ _ (T216.setTop (mkF m 10 #[.val (.ref a1)] [(.int (2 : Int32)), (.int sz)]))
  refine own_st (fun t k => XS.icmpYes X216.here hx rfl (pc0 := 10) (pc' := 63) rfl (hb hby own_d41_10) rfl (feq hn).2 (by decide) (by decide) k) ?_
  show own_G _ _ _ _ _ _ _ (T216.setTop (mkF m 63 #[.val (.ref a1)] []))
  refine own_st (fun t k => XS.iconst X216.here hx rfl (hb hby own_d41_63) k) ?_
  show own_G _ _ _ _ _ _ _ (T216.setTop (mkF m 64 #[.val (.ref a1)] [(.int (0 : Int32))]))
  exact own_retN (t := .boolean) (by simp) X216 hx Bd.returns (BodyLoose.notSynchronized Bd) (hb hby own_d41_64) (by decide) (by decide) ⟨rfl, N216, e216⟩
theorem own_d42_0 : decode prog_12_method_2_code 0 = .ok (.aload_n 0, 1) := by decide +kernel
theorem own_d42_1 : decode prog_12_method_2_code 1 = .ok (.getfield 7, 3) := by decide +kernel
theorem own_d42_4 : decode prog_12_method_2_code 4 = .ok (.invokeinterface 17 1, 5) := by decide +kernel
theorem own_d42_9 : decode prog_12_method_2_code 9 = .ok (.iconst 2, 1) := by decide +kernel
theorem own_d42_10 : decode prog_12_method_2_code 10 = .ok (.if_icmp .ne 53, 3) := by decide +kernel
theorem own_d42_13 : decode prog_12_method_2_code 13 = .ok (.aload_n 0, 1) := by decide +kernel
theorem own_d42_14 : decode prog_12_method_2_code 14 = .ok (.getfield 7, 3) := by decide +kernel
theorem own_d42_17 : decode prog_12_method_2_code 17 = .ok (.iconst 0, 1) := by decide +kernel
theorem own_d42_18 : decode prog_12_method_2_code 18 = .ok (.invokeinterface 23 2, 5) := by decide +kernel
theorem own_d42_23 : decode prog_12_method_2_code 23 = .ok (.checkcast 27, 3) := by decide +kernel
theorem own_d42_26 : decode prog_12_method_2_code 26 = .ok (.invokevirtual 29, 3) := by decide +kernel
theorem own_d42_29 : decode prog_12_method_2_code 29 = .ok (.aload_n 0, 1) := by decide +kernel
theorem own_d42_30 : decode prog_12_method_2_code 30 = .ok (.getfield 13, 3) := by decide +kernel
theorem own_d42_33 : decode prog_12_method_2_code 33 = .ok (.if_icmp .ne 30, 3) := by decide +kernel
theorem own_d42_36 : decode prog_12_method_2_code 36 = .ok (.aload_n 0, 1) := by decide +kernel
theorem own_d42_37 : decode prog_12_method_2_code 37 = .ok (.getfield 7, 3) := by decide +kernel
theorem own_d42_40 : decode prog_12_method_2_code 40 = .ok (.iconst 1, 1) := by decide +kernel
theorem own_d42_41 : decode prog_12_method_2_code 41 = .ok (.invokeinterface 23 2, 5) := by decide +kernel
theorem own_d42_46 : decode prog_12_method_2_code 46 = .ok (.checkcast 27, 3) := by decide +kernel
theorem own_d42_49 : decode prog_12_method_2_code 49 = .ok (.invokevirtual 29, 3) := by decide +kernel
theorem own_d42_52 : decode prog_12_method_2_code 52 = .ok (.aload_n 0, 1) := by decide +kernel
theorem own_d42_53 : decode prog_12_method_2_code 53 = .ok (.getfield 13, 3) := by decide +kernel
theorem own_d42_56 : decode prog_12_method_2_code 56 = .ok (.if_icmp .ne 7, 3) := by decide +kernel
theorem own_d42_59 : decode prog_12_method_2_code 59 = .ok (.iconst 1, 1) := by decide +kernel
theorem own_d42_60 : decode prog_12_method_2_code 60 = .ok (.goto 4, 3) := by decide +kernel
theorem own_d42_63 : decode prog_12_method_2_code 63 = .ok (.iconst 0, 1) := by decide +kernel
theorem own_d42_64 : decode prog_12_method_2_code 64 = .ok (.ireturn, 1) := by decide +kernel
theorem own_ef42 (m : MethodId) (a1 : Addr) : entryFrame m #[(.ref a1)] 1 = mkF m 0 #[.val (.ref a1)] [] := by first | (simp [entryFrame, mkF, argsToLocals, Value.category]; done) | rfl
set_option maxRecDepth 65536 in
set_option maxHeartbeats 40000000 in
theorem own_rm42 (l : Launch) (Z : State) (a0 : Array Value) (hw : ∀ d ∈ tables_1, d.before a0 Z = true) (ws : List Jvm.Cond) (a1 l1 : Addr) (p1 : Int32) (d1 : Addr) (kd : ClassId) (b0 b1 : Addr) (x0 x1 : Int32) (h0 : Heap) (n0 : Nat) (Z0 : n0 ≤ h0.size) (F1 : Fld Z h0 a1 "com/example/strigine/strigine/Roles$Chain" "roles" "Ljava/util/List;" (.ref l1)) (F2 : Fld Z h0 a1 "com/example/strigine/strigine/Roles$Chain" "sup" "I" (.int p1)) (El : Exa Z h0 l1 "java/util/ArrayList") (Fs : Fld Z h0 l1 "java/util/ArrayList" "size" "I" (.int 2)) (Fe : Fld Z h0 l1 "java/util/ArrayList" "elementData" "[Ljava/lang/Object;" (.ref d1)) (Vd : Arv Z h0 d1 kd (.object "java/lang/Object") 10 [.ref b0, .ref b1, .null, .null, .null, .null, .null, .null, .null, .null] .null) (E0 : Exa Z h0 b0 "java/lang/Integer") (V0 : Fld Z h0 b0 "java/lang/Integer" "value" "I" (.int x0)) (E1 : Exa Z h0 b1 "java/lang/Integer") (V1 : Fld Z h0 b1 "java/lang/Integer" "value" "I" (.int x1)) :
    MetFree l (⟨"com/example/strigine/strigine/Roles$Chain", "isTransitivity", "()Z"⟩ : MethodName) (head1 (Jvm.Cond.code (⟨"com/example/strigine/strigine/Roles$Chain", "isTransitivity", "()Z"⟩ : MethodName) prog_12_method_2_code 1 (some .boolean) :: ws) ({ frames := 3, cells := 0, slots := 0, locals := 40 } : Room)) (fun a U => a = #[(.ref a1)] ∧ Z.Warmed39 U.vm ∧ U.heap = h0) (fun _ _ _ _ _ => True) (fun _ U o U' => ∃ v L, o = .returned v ∧ own_Qp (some (.int (own_b (x0 = p1 ∧ x1 = p1)))) h0 n0 v U'.heap L ∧ FrameEnd U o U' L ({ frames := 3, cells := 0, slots := 0, locals := 40 } : Room).cells ({ frames := 3, cells := 0, slots := 0, locals := 40 } : Room).slots) := by
  refine MetFree.of_bodySF (plainFor_of_name own_pn8) hisR ?_
  intro p e s m args below meth c s₁ Bd hml0 hP hK
  obtain ⟨rfl, hZ, hh⟩ := hP
  have hx := Bd.exec
  have hby := Bd.bytes
  have hml : c.maxLocals = 1 := hml0
  have hown : s.vm.findClass "com/example/strigine/strigine/Roles$Chain" = some m.cls := findClass_of_methodNamed Bd.named
  have hnm := (name_of_methodNamed Bd.named Bd.method).1
  have X0 : Stand p l e ({ frames := 3, cells := 0, slots := 0, locals := 40 } : Room) s m #[(.ref a1)] below meth c s₁ [] 0 0 := Stand.of_body Bd
  have e0 : s₁.heap = h0 := by rw [← hh, Bd.state]; rfl
  have N0 := Fr.nil n0
  refine own_in (Q := own_Qp (some (.int (own_b (x0 = p1 ∧ x1 = p1)))) h0 n0) ?_
  rw [own_ef42]
  show own_G _ _ _ _ _ _ _ (s₁.setTop (mkF m 0 #[.val (.ref a1)] []))
  refine own_st (fun t k => XS.aloadN X0.here hx rfl (hb hby own_d42_0) rfl rfl k) ?_
  show own_G _ _ _ _ _ _ _ (s₁.setTop (mkF m 1 #[.val (.ref a1)] [(.ref a1)]))
  obtain ⟨T217, X217, e217, st217⟩ := getF X0 hx hZ hown (host := "") (Or.inl (hw _ (List.mem_of_getElem? (i := 38) rfl))) Via.refl e0 F1 (g := (mkF m 1 #[.val (.ref a1)] [(.ref a1)])) rfl rfl (hb hby own_d42_1)
  refine own_st (fun t k => st217 t k) ?_
  show own_G _ _ _ _ _ _ _ (T217.setTop (mkF m 4 #[.val (.ref a1)] [(.ref l1)]))
  obtain ⟨cq218, kq218, q218a, q218b, q218c⟩ := isOf hZ e217 El
  obtain ⟨_, _, ⟨T218, L218, k218, n218⟩, -, X218, ⟨Lc218, hQ218, l218, y218, z218⟩, st218⟩ := X217.interfaceBack hx (xi := (⟨"java/util/List", "size", "()I"⟩ : MethodName)) (y := (⟨"java/util/ArrayList", "size", "()I"⟩ : MethodName)) hown (mvT hZ (hw _ (List.mem_of_getElem? (i := 47) rfl))) (mvT hZ (hw _ (List.mem_of_getElem? (i := 48) rfl))) (mvT hZ (hw _ (List.mem_of_getElem? (i := 49) rfl))) (mvT hZ (hw _ (List.mem_of_getElem? (i := 50) rfl))) (mvT hZ (hw _ (List.mem_of_getElem? (i := 51) rfl))) (mvT hZ (hw _ (List.mem_of_getElem? (i := 52) rfl))) (mvT hZ (hw _ (List.mem_of_getElem? (i := 53) rfl))) (mvT hZ (hw _ (List.mem_of_getElem? (i := 54) rfl))) (by decide) (backOf (W := 0) (own_rm9 l Z a0 hw [] l1 2 h0 n0 Z0 Fs) hZ (hw _ (List.mem_of_getElem? (i := 55) rfl)) (hw _ (List.mem_of_getElem? (i := 2) rfl)) (by decide) (by decide)) q218a q218b q218c (g := (mkF m 4 #[.val (.ref a1)] [(.ref l1)])) rfl (by rw [hml]; rfl) (Steps.refl _) (argsL := []) (rest := []) (lenOf own_pd4 rfl) rfl (by show 2 * 0 + _ ≤ _; exact Nat.le_of_eq rfl) (hb hby own_d42_4) (fun _ _ => ⟨rfl, e217, (by decide : 0 + 0 ≤ _), (by decide : 0 + 0 ≤ _)⟩)
  dsimp only [Pt.U, Pt.locs, Pt.cells, Pt.slots] at X218 l218 y218 z218 st218 hQ218
  subst l218 y218 z218
  obtain ⟨rfl, N218q, e218⟩ := hQ218
  have N218 := Fr.app N0 N218q
  refine own_st (fun t k => st218.trans k) ?_
  show own_G _ _ _ _ _ _ _ (T218.setTop (mkF m 9 #[.val (.ref a1)] [(.int (2 : Int32))]))
  refine own_st (fun t k => XS.iconst X218.here hx rfl (hb hby own_d42_9) k) ?_
  show own_G _ _ _ _ _ _ _ (T218.setTop (mkF m 10 #[.val (.ref a1)] [(.int (2 : Int32)), (.int (2 : Int32))]))
  refine own_st (fun t k => XS.icmpNo X218.here hx rfl (hb hby own_d42_10) rfl (teq rfl).2 k) ?_
  show own_G _ _ _ _ _ _ _ (T218.setTop (mkF m 13 #[.val (.ref a1)] []))
  refine own_st (fun t k => XS.aloadN X218.here hx rfl (hb hby own_d42_13) rfl rfl k) ?_
  show own_G _ _ _ _ _ _ _ (T218.setTop (mkF m 14 #[.val (.ref a1)] [(.ref a1)]))
  obtain ⟨T219, X219, e219, st219⟩ := getF X218 hx hZ hown (host := "") (Or.inl (hw _ (List.mem_of_getElem? (i := 38) rfl))) Via.refl e218 F1 (g := (mkF m 14 #[.val (.ref a1)] [(.ref a1)])) rfl rfl (hb hby own_d42_14)
  refine own_st (fun t k => st219 t k) ?_
  show own_G _ _ _ _ _ _ _ (T219.setTop (mkF m 17 #[.val (.ref a1)] [(.ref l1)]))
  refine own_st (fun t k => XS.iconst X219.here hx rfl (hb hby own_d42_17) k) ?_
  show own_G _ _ _ _ _ _ _ (T219.setTop (mkF m 18 #[.val (.ref a1)] [(.int (0 : Int32)), (.ref l1)]))
  obtain ⟨cq220, kq220, q220a, q220b, q220c⟩ := isOf hZ e219 El
  obtain ⟨_, _, ⟨T220, L220, k220, n220⟩, -, X220, ⟨Lc220, hQ220, l220, y220, z220⟩, st220⟩ := X219.interfaceBack hx (xi := (⟨"java/util/List", "get", "(I)Ljava/lang/Object;"⟩ : MethodName)) (y := (⟨"java/util/ArrayList", "get", "(I)Ljava/lang/Object;"⟩ : MethodName)) hown (mvT hZ (hw _ (List.mem_of_getElem? (i := 109) rfl))) (mvT hZ (hw _ (List.mem_of_getElem? (i := 110) rfl))) (mvT hZ (hw _ (List.mem_of_getElem? (i := 111) rfl))) (mvT hZ (hw _ (List.mem_of_getElem? (i := 112) rfl))) (mvT hZ (hw _ (List.mem_of_getElem? (i := 113) rfl))) (mvT hZ (hw _ (List.mem_of_getElem? (i := 114) rfl))) (mvT hZ (hw _ (List.mem_of_getElem? (i := 115) rfl))) (mvT hZ (hw _ (List.mem_of_getElem? (i := 54) rfl))) (by decide) (backOf (W := 0) (own_rm13 l Z a0 hw [] l1 (0 : Int32) d1 b0 kd [.ref b0, .ref b1, .null, .null, .null, .null, .null, .null, .null, .null] 2 h0 n0 Z0 El Fs (by decide) Fe Vd (by decide) (by decide) rfl) hZ (hw _ (List.mem_of_getElem? (i := 116) rfl)) (hw _ (List.mem_of_getElem? (i := 2) rfl)) (by decide) (by decide)) q220a q220b q220c (g := (mkF m 18 #[.val (.ref a1)] [(.int (0 : Int32)), (.ref l1)])) rfl (by rw [hml]; rfl) (Steps.refl _) (argsL := [(.int (0 : Int32))]) (rest := []) (lenOf own_pd12 rfl) rfl (by show 2 * 0 + _ ≤ _; exact Nat.le_of_eq rfl) (hb hby own_d42_18) (fun _ _ => ⟨rfl, e219, (by decide : 0 + 0 ≤ _), (by decide : 0 + 0 ≤ _)⟩)
  dsimp only [Pt.U, Pt.locs, Pt.cells, Pt.slots] at X220 l220 y220 z220 st220 hQ220
  subst l220 y220 z220
  obtain ⟨rfl, N220q, e220⟩ := hQ220
  have N220 := Fr.app N218 N220q
  refine own_st (fun t k => st220.trans k) ?_
  show own_G _ _ _ _ _ _ _ (T220.setTop (mkF m 23 #[.val (.ref a1)] [(.ref b0)]))
  obtain ⟨T221, X221, e221, st221⟩ := castY X220 hx hZ hown (hw _ (List.mem_of_getElem? (i := 130) rfl)) e220 (Ins.self E0) (g := (mkF m 23 #[.val (.ref a1)] [(.ref b0)])) rfl rfl (hb hby own_d42_23)
  refine own_st (fun t k => st221 t k) ?_
  show own_G _ _ _ _ _ _ _ (T221.setTop (mkF m 26 #[.val (.ref a1)] [(.ref b0)]))
  obtain ⟨cq222, kq222, q222a, q222b, q222c⟩ := isOf hZ e221 E0
  obtain ⟨_, _, ⟨T222, L222, k222, n222⟩, -, X222, ⟨Lc222, hQ222, l222, y222, z222⟩, st222⟩ := X221.virtualBack hx (y := (⟨"java/lang/Integer", "intValue", "()I"⟩ : MethodName)) (z := (⟨"java/lang/Integer", "intValue", "()I"⟩ : MethodName)) hown (mvT hZ (hw _ (List.mem_of_getElem? (i := 131) rfl))) (mvT hZ (hw _ (List.mem_of_getElem? (i := 132) rfl))) (notFace_of_selects (args := #[]) (mvT hZ (hw _ (List.mem_of_getElem? (i := 134) rfl)))) (mvT hZ (hw _ (List.mem_of_getElem? (i := 134) rfl))) (mvT hZ (hw _ (List.mem_of_getElem? (i := 133) rfl))) (by decide) (backOf (W := 0) (own_rm8 l Z a0 hw [] b0 x0 h0 n0 Z0 V0) hZ (hw _ (List.mem_of_getElem? (i := 135) rfl)) (hw _ (List.mem_of_getElem? (i := 60) rfl)) (by decide) (by decide)) q222a q222c (g := (mkF m 26 #[.val (.ref a1)] [(.ref b0)])) rfl (by rw [hml]; rfl) (Steps.refl _) (argsL := []) (rest := []) (lenOf own_pd4 rfl) rfl (by show 2 * 0 + _ ≤ _; exact Nat.le_of_eq rfl) (hb hby own_d42_26) (fun _ _ => ⟨rfl, e221, (by decide : 0 + 0 ≤ _), (by decide : 0 + 0 ≤ _)⟩)
  dsimp only [Pt.U, Pt.locs, Pt.cells, Pt.slots] at X222 l222 y222 z222 st222 hQ222
  subst l222 y222 z222
  obtain ⟨rfl, N222q, e222⟩ := hQ222
  have N222 := Fr.app N220 N222q
  refine own_st (fun t k => st222.trans k) ?_
  show own_G _ _ _ _ _ _ _ (T222.setTop (mkF m 29 #[.val (.ref a1)] [(.int x0)]))
  refine own_st (fun t k => XS.aloadN X222.here hx rfl (hb hby own_d42_29) rfl rfl k) ?_
  show own_G _ _ _ _ _ _ _ (T222.setTop (mkF m 30 #[.val (.ref a1)] [(.ref a1), (.int x0)]))
  obtain ⟨T223, X223, e223, st223⟩ := getF X222 hx hZ hown (host := "") (Or.inl (hw _ (List.mem_of_getElem? (i := 40) rfl))) Via.refl e222 F2 (g := (mkF m 30 #[.val (.ref a1)] [(.ref a1), (.int x0)])) rfl rfl (hb hby own_d42_30)
  refine own_st (fun t k => st223 t k) ?_
  show own_G _ _ _ _ _ _ _ (T223.setTop (mkF m 33 #[.val (.ref a1)] [(.int p1), (.int x0)]))
  by_cases k0 : x0 = p1
  · refine own_st (fun t k => XS.icmpNo X223.here hx rfl (hb hby own_d42_33) rfl (teq k0).2 k) ?_
    show own_G _ _ _ _ _ _ _ (T223.setTop (mkF m 36 #[.val (.ref a1)] []))
    refine own_st (fun t k => XS.aloadN X223.here hx rfl (hb hby own_d42_36) rfl rfl k) ?_
    show own_G _ _ _ _ _ _ _ (T223.setTop (mkF m 37 #[.val (.ref a1)] [(.ref a1)]))
    obtain ⟨T224, X224, e224, st224⟩ := getF X223 hx hZ hown (host := "") (Or.inl (hw _ (List.mem_of_getElem? (i := 38) rfl))) Via.refl e223 F1 (g := (mkF m 37 #[.val (.ref a1)] [(.ref a1)])) rfl rfl (hb hby own_d42_37)
    refine own_st (fun t k => st224 t k) ?_
    show own_G _ _ _ _ _ _ _ (T224.setTop (mkF m 40 #[.val (.ref a1)] [(.ref l1)]))
    refine own_st (fun t k => XS.iconst X224.here hx rfl (hb hby own_d42_40) k) ?_
    show own_G _ _ _ _ _ _ _ (T224.setTop (mkF m 41 #[.val (.ref a1)] [(.int (1 : Int32)), (.ref l1)]))
    obtain ⟨cq225, kq225, q225a, q225b, q225c⟩ := isOf hZ e224 El
    obtain ⟨_, _, ⟨T225, L225, k225, n225⟩, -, X225, ⟨Lc225, hQ225, l225, y225, z225⟩, st225⟩ := X224.interfaceBack hx (xi := (⟨"java/util/List", "get", "(I)Ljava/lang/Object;"⟩ : MethodName)) (y := (⟨"java/util/ArrayList", "get", "(I)Ljava/lang/Object;"⟩ : MethodName)) hown (mvT hZ (hw _ (List.mem_of_getElem? (i := 109) rfl))) (mvT hZ (hw _ (List.mem_of_getElem? (i := 110) rfl))) (mvT hZ (hw _ (List.mem_of_getElem? (i := 111) rfl))) (mvT hZ (hw _ (List.mem_of_getElem? (i := 112) rfl))) (mvT hZ (hw _ (List.mem_of_getElem? (i := 113) rfl))) (mvT hZ (hw _ (List.mem_of_getElem? (i := 114) rfl))) (mvT hZ (hw _ (List.mem_of_getElem? (i := 115) rfl))) (mvT hZ (hw _ (List.mem_of_getElem? (i := 54) rfl))) (by decide) (backOf (W := 0) (own_rm13 l Z a0 hw [] l1 (1 : Int32) d1 b1 kd [.ref b0, .ref b1, .null, .null, .null, .null, .null, .null, .null, .null] 2 h0 n0 Z0 El Fs (by decide) Fe Vd (by decide) (by decide) rfl) hZ (hw _ (List.mem_of_getElem? (i := 116) rfl)) (hw _ (List.mem_of_getElem? (i := 2) rfl)) (by decide) (by decide)) q225a q225b q225c (g := (mkF m 41 #[.val (.ref a1)] [(.int (1 : Int32)), (.ref l1)])) rfl (by rw [hml]; rfl) (Steps.refl _) (argsL := [(.int (1 : Int32))]) (rest := []) (lenOf own_pd12 rfl) rfl (by show 2 * 0 + _ ≤ _; exact Nat.le_of_eq rfl) (hb hby own_d42_41) (fun _ _ => ⟨rfl, e224, (by decide : 0 + 0 ≤ _), (by decide : 0 + 0 ≤ _)⟩)
    dsimp only [Pt.U, Pt.locs, Pt.cells, Pt.slots] at X225 l225 y225 z225 st225 hQ225
    subst l225 y225 z225
    obtain ⟨rfl, N225q, e225⟩ := hQ225
    have N225 := Fr.app N222 N225q
    refine own_st (fun t k => st225.trans k) ?_
    show own_G _ _ _ _ _ _ _ (T225.setTop (mkF m 46 #[.val (.ref a1)] [(.ref b1)]))
    obtain ⟨T226, X226, e226, st226⟩ := castY X225 hx hZ hown (hw _ (List.mem_of_getElem? (i := 130) rfl)) e225 (Ins.self E1) (g := (mkF m 46 #[.val (.ref a1)] [(.ref b1)])) rfl rfl (hb hby own_d42_46)
    refine own_st (fun t k => st226 t k) ?_
    show own_G _ _ _ _ _ _ _ (T226.setTop (mkF m 49 #[.val (.ref a1)] [(.ref b1)]))
    obtain ⟨cq227, kq227, q227a, q227b, q227c⟩ := isOf hZ e226 E1
    obtain ⟨_, _, ⟨T227, L227, k227, n227⟩, -, X227, ⟨Lc227, hQ227, l227, y227, z227⟩, st227⟩ := X226.virtualBack hx (y := (⟨"java/lang/Integer", "intValue", "()I"⟩ : MethodName)) (z := (⟨"java/lang/Integer", "intValue", "()I"⟩ : MethodName)) hown (mvT hZ (hw _ (List.mem_of_getElem? (i := 131) rfl))) (mvT hZ (hw _ (List.mem_of_getElem? (i := 132) rfl))) (notFace_of_selects (args := #[]) (mvT hZ (hw _ (List.mem_of_getElem? (i := 134) rfl)))) (mvT hZ (hw _ (List.mem_of_getElem? (i := 134) rfl))) (mvT hZ (hw _ (List.mem_of_getElem? (i := 133) rfl))) (by decide) (backOf (W := 0) (own_rm8 l Z a0 hw [] b1 x1 h0 n0 Z0 V1) hZ (hw _ (List.mem_of_getElem? (i := 135) rfl)) (hw _ (List.mem_of_getElem? (i := 60) rfl)) (by decide) (by decide)) q227a q227c (g := (mkF m 49 #[.val (.ref a1)] [(.ref b1)])) rfl (by rw [hml]; rfl) (Steps.refl _) (argsL := []) (rest := []) (lenOf own_pd4 rfl) rfl (by show 2 * 0 + _ ≤ _; exact Nat.le_of_eq rfl) (hb hby own_d42_49) (fun _ _ => ⟨rfl, e226, (by decide : 0 + 0 ≤ _), (by decide : 0 + 0 ≤ _)⟩)
    dsimp only [Pt.U, Pt.locs, Pt.cells, Pt.slots] at X227 l227 y227 z227 st227 hQ227
    subst l227 y227 z227
    obtain ⟨rfl, N227q, e227⟩ := hQ227
    have N227 := Fr.app N225 N227q
    refine own_st (fun t k => st227.trans k) ?_
    show own_G _ _ _ _ _ _ _ (T227.setTop (mkF m 52 #[.val (.ref a1)] [(.int x1)]))
    refine own_st (fun t k => XS.aloadN X227.here hx rfl (hb hby own_d42_52) rfl rfl k) ?_
    show own_G _ _ _ _ _ _ _ (T227.setTop (mkF m 53 #[.val (.ref a1)] [(.ref a1), (.int x1)]))
    obtain ⟨T228, X228, e228, st228⟩ := getF X227 hx hZ hown (host := "") (Or.inl (hw _ (List.mem_of_getElem? (i := 40) rfl))) Via.refl e227 F2 (g := (mkF m 53 #[.val (.ref a1)] [(.ref a1), (.int x1)])) rfl rfl (hb hby own_d42_53)
    refine own_st (fun t k => st228 t k) ?_
    show own_G _ _ _ _ _ _ _ (T228.setTop (mkF m 56 #[.val (.ref a1)] [(.int p1), (.int x1)]))
    by_cases k1 : x1 = p1
    · refine own_st (fun t k => XS.icmpNo X228.here hx rfl (hb hby own_d42_56) rfl (teq k1).2 k) ?_
      show own_G _ _ _ _ _ _ _ (T228.setTop (mkF m 59 #[.val (.ref a1)] []))
      refine own_st (fun t k => XS.iconst X228.here hx rfl (hb hby own_d42_59) k) ?_
      show own_G _ _ _ _ _ _ _ (T228.setTop (mkF m 60 #[.val (.ref a1)] [(.int (1 : Int32))]))
      refine own_st (fun t k => XS.goto X228.here hx rfl (pc0 := 60) (pc' := 64) rfl (hb hby own_d42_60) (by decide) (by decide) k) ?_
      show own_G _ _ _ _ _ _ _ (T228.setTop (mkF m 64 #[.val (.ref a1)] [(.int (1 : Int32))]))
      exact own_retN (t := .boolean) (by simp) X228 hx Bd.returns (BodyLoose.notSynchronized Bd) (hb hby own_d42_64) (by decide) (by decide) ⟨own_bT ⟨k0, k1⟩, N227, e228⟩
    · refine own_st (fun t k => XS.icmpYes X228.here hx rfl (pc0 := 56) (pc' := 63) rfl (hb hby own_d42_56) rfl (feq k1).2 (by decide) (by decide) k) ?_
      show own_G _ _ _ _ _ _ _ (T228.setTop (mkF m 63 #[.val (.ref a1)] []))
      refine own_st (fun t k => XS.iconst X228.here hx rfl (hb hby own_d42_63) k) ?_
      show own_G _ _ _ _ _ _ _ (T228.setTop (mkF m 64 #[.val (.ref a1)] [(.int (0 : Int32))]))
      exact own_retN (t := .boolean) (by simp) X228 hx Bd.returns (BodyLoose.notSynchronized Bd) (hb hby own_d42_64) (by decide) (by decide) ⟨own_bF (fun q => k1 q.2), N227, e228⟩
  · refine own_st (fun t k => XS.icmpYes X223.here hx rfl (pc0 := 33) (pc' := 63) rfl (hb hby own_d42_33) rfl (feq k0).2 (by decide) (by decide) k) ?_
    show own_G _ _ _ _ _ _ _ (T223.setTop (mkF m 63 #[.val (.ref a1)] []))
    refine own_st (fun t k => XS.iconst X223.here hx rfl (hb hby own_d42_63) k) ?_
    show own_G _ _ _ _ _ _ _ (T223.setTop (mkF m 64 #[.val (.ref a1)] [(.int (0 : Int32))]))
    exact own_retN (t := .boolean) (by simp) X223 hx Bd.returns (BodyLoose.notSynchronized Bd) (hb hby own_d42_64) (by decide) (by decide) ⟨own_bF (fun q => k0 q.1), N222, e223⟩
theorem own_nn (m : Int32) : 0 ≤ (((m.toUInt32 >>> ((2 : Int32) &&& 31).toUInt32).toInt32) % 5).toInt ∧ (((m.toUInt32 >>> ((2 : Int32) &&& 31).toUInt32).toInt32) % 5).toInt < 5 := by
  have h := c_iushr m 2 2 (by decide) (by decide)
  have e : (5 : Int32).toInt = 5 := by decide
  have r := rng32 m
  have h0 : 0 ≤ ((m.toUInt32 >>> ((2 : Int32) &&& 31).toUInt32).toInt32).toInt := by rw [h]; omega
  rw [Jvm.Kit.i32_rem_nonneg h0, e]
  omega
theorem own_five {n : Int32} (h : 0 ≤ n.toInt ∧ n.toInt < 5) : n = 0 ∨ n = 1 ∨ n = 2 ∨ n = 3 ∨ n = 4 := by
  have k : ∀ m : Int32, n = m ↔ n.toInt = m.toInt := fun m => Int32.toInt_inj.symm
  simp only [k, show (0 : Int32).toInt = 0 from by decide, show (1 : Int32).toInt = 1 from by decide, show (2 : Int32).toInt = 2 from by decide, show (3 : Int32).toInt = 3 from by decide, show (4 : Int32).toInt = 4 from by decide]
  omega
theorem own_pn9 : plainName "com/example/strigine/strigine/ChainIsTransitivityPinLaw" = true := by first | (simp [plainName, overriddenIn]; done) | decide +kernel
theorem own_ef0 (m : MethodId) (p1 : Int32) (p2 : Int32) (p3 : Int32) (p4 : Int32) (p5 : Int32) : entryFrame m #[(.int p1), (.int p2), (.int p3), (.int p4), (.int p5)] maxLocals = mkF m 0 #[.val (.int p1), .val (.int p2), .val (.int p3), .val (.int p4), .val (.int p5), .unset, .unset, .unset, .unset, .unset, .unset, .unset, .unset] [] := by first | (simp [entryFrame, mkF, argsToLocals, Value.category, maxLocals]; done) | rfl
set_option maxRecDepth 65536 in
set_option maxHeartbeats 40000000 in
theorem own_rm0 (l : Launch) (Z : State) (a0 : Array Value) (hw : ∀ d ∈ tables_1, d.before a0 Z = true) (ws : List Jvm.Cond) (p1 p2 p3 p4 p5 : Int32) (df : Addr) (kf : ClassId) (ca : Addr) (cc : Cell) (h0 : Heap) (n0 : Nat) (Z0 : n0 ≤ h0.size) (O0 : Old Z n0 h0) (Sd : Sta Z Z.heap "java/util/ArrayList" "DEFAULTCAPACITY_EMPTY_ELEMENTDATA" "[Ljava/lang/Object;" (.ref df)) (Vf : Arv Z Z.heap df kf (.object "java/lang/Object") 0 [] .null) (Sh : Sta Z Z.heap "java/lang/Integer$IntegerCache" "high" "I" (.int 127)) (Sc : Sta Z Z.heap "java/lang/Integer$IntegerCache" "cache" "[Ljava/lang/Integer;" (.ref ca)) (Bx : Bxs Z ca cc "java/lang/Integer" "I" 256 (fun j => .int (j - 128))) :
    MetFree l x (head1 (Jvm.Cond.code x code maxLocals ret :: ws) room_1) (fun a U => a = #[(.int p1), (.int p2), (.int p3), (.int p4), (.int p5)] ∧ Z.Warmed39 U.vm ∧ U.heap = h0) (fun _ _ _ _ _ => True) (fun _ U o U' => ∃ v L, o = .returned v ∧ own_Q0 n0 v U'.heap L ∧ FrameEnd U o U' L room_1.cells room_1.slots) := by
  refine MetFree.of_bodySF (plainFor_of_name own_pn9) hisR ?_
  intro p e s m args below meth c s₁ Bd hml0 hP hK
  obtain ⟨rfl, hZ, hh⟩ := hP
  have hx := Bd.exec
  have hby := Bd.bytes
  have hml : c.maxLocals = 13 := hml0
  have hown : s.vm.findClass "com/example/strigine/strigine/ChainIsTransitivityPinLaw" = some m.cls := findClass_of_methodNamed Bd.named
  have hnm := (name_of_methodNamed Bd.named Bd.method).1
  have X0 : Stand p l e room_1 s m #[(.int p1), (.int p2), (.int p3), (.int p4), (.int p5)] below meth c s₁ [] 0 0 := Stand.of_body Bd
  have e0 : s₁.heap = h0 := by rw [← hh, Bd.state]; rfl
  have N0 := Fr.nil n0
  refine own_in (Q := own_Q0 n0) ?_
  rw [own_ef0]
  show own_G _ _ _ _ _ _ _ (s₁.setTop (mkF m 0 #[.val (.int p1), .val (.int p2), .val (.int p3), .val (.int p4), .val (.int p5), .unset, .unset, .unset, .unset, .unset, .unset, .unset, .unset] []))
  refine own_st (fun t k => XS.iload X0.here hx rfl (hb hby at_0) rfl k) ?_
  show own_G _ _ _ _ _ _ _ (s₁.setTop (mkF m 2 #[.val (.int p1), .val (.int p2), .val (.int p3), .val (.int p4), .val (.int p5), .unset, .unset, .unset, .unset, .unset, .unset, .unset, .unset] [(.int p5)]))
  refine own_st (fun t k => XS.iconst X0.here hx rfl (hb hby at_2) k) ?_
  show own_G _ _ _ _ _ _ _ (s₁.setTop (mkF m 3 #[.val (.int p1), .val (.int p2), .val (.int p3), .val (.int p4), .val (.int p5), .unset, .unset, .unset, .unset, .unset, .unset, .unset, .unset] [(.int (2 : Int32)), (.int p5)]))
  refine own_st (fun t k => XS.iushr X0.here hx rfl (hb hby at_3) rfl k) ?_
  show own_G _ _ _ _ _ _ _ (s₁.setTop (mkF m 4 #[.val (.int p1), .val (.int p2), .val (.int p3), .val (.int p4), .val (.int p5), .unset, .unset, .unset, .unset, .unset, .unset, .unset, .unset] [(.int ((p5.toUInt32 >>> ((2 : Int32) &&& 31).toUInt32).toInt32))]))
  refine own_st (fun t k => XS.iconst X0.here hx rfl (hb hby at_4) k) ?_
  show own_G _ _ _ _ _ _ _ (s₁.setTop (mkF m 5 #[.val (.int p1), .val (.int p2), .val (.int p3), .val (.int p4), .val (.int p5), .unset, .unset, .unset, .unset, .unset, .unset, .unset, .unset] [(.int (5 : Int32)), (.int ((p5.toUInt32 >>> ((2 : Int32) &&& 31).toUInt32).toInt32))]))
  refine own_st (fun t k => iremM X0 hx rfl (hb hby at_5) rfl (by decide) k) ?_
  show own_G _ _ _ _ _ _ _ (s₁.setTop (mkF m 6 #[.val (.int p1), .val (.int p2), .val (.int p3), .val (.int p4), .val (.int p5), .unset, .unset, .unset, .unset, .unset, .unset, .unset, .unset] [(.int (((p5.toUInt32 >>> ((2 : Int32) &&& 31).toUInt32).toInt32) % (5 : Int32)))]))
  have hn5 := own_five (own_nn p5)
  generalize (((p5.toUInt32 >>> ((2 : Int32) &&& 31).toUInt32).toInt32) % (5 : Int32)) = nn at hn5 ⊢
  show own_G _ _ _ _ _ _ _ (s₁.setTop (mkF m 6 #[.val (.int p1), .val (.int p2), .val (.int p3), .val (.int p4), .val (.int p5), .unset, .unset, .unset, .unset, .unset, .unset, .unset, .unset] [(.int nn)]))
  refine own_st (fun t k => XS.istore X0.here hx rfl (hb hby at_6) rfl (l' := #[.val (.int p1), .val (.int p2), .val (.int p3), .val (.int p4), .val (.int p5), .val (.int nn), .unset, .unset, .unset, .unset, .unset, .unset, .unset]) rfl k) ?_
  show own_G _ _ _ _ _ _ _ (s₁.setTop (mkF m 8 #[.val (.int p1), .val (.int p2), .val (.int p3), .val (.int p4), .val (.int p5), .val (.int nn), .unset, .unset, .unset, .unset, .unset, .unset, .unset] []))
  have J20 : ∀ (ea : Int32), own_G p.tables e below s (own_Q0 n0) room_1.cells room_1.slots (s₁.setTop (mkF m 20 #[.val (.int p1), .val (.int p2), .val (.int p3), .val (.int p4), .val (.int p5), .val (.int nn), .unset, .unset, .unset, .unset, .unset, .unset, .unset] [(.int ea)])) := by
    intro ea
    refine own_st (fun t k => XS.istore X0.here hx rfl (hb hby at_20) rfl (l' := #[.val (.int p1), .val (.int p2), .val (.int p3), .val (.int p4), .val (.int p5), .val (.int nn), .val (.int ea), .unset, .unset, .unset, .unset, .unset, .unset]) rfl k) ?_
    show own_G _ _ _ _ _ _ _ (s₁.setTop (mkF m 22 #[.val (.int p1), .val (.int p2), .val (.int p3), .val (.int p4), .val (.int p5), .val (.int nn), .val (.int ea), .unset, .unset, .unset, .unset, .unset, .unset] []))
    refine own_st (fun t k => XS.iload X0.here hx rfl (hb hby at_22) rfl k) ?_
    show own_G _ _ _ _ _ _ _ (s₁.setTop (mkF m 24 #[.val (.int p1), .val (.int p2), .val (.int p3), .val (.int p4), .val (.int p5), .val (.int nn), .val (.int ea), .unset, .unset, .unset, .unset, .unset, .unset] [(.int p5)]))
    refine own_st (fun t k => XS.iconst X0.here hx rfl (hb hby at_24) k) ?_
    show own_G _ _ _ _ _ _ _ (s₁.setTop (mkF m 25 #[.val (.int p1), .val (.int p2), .val (.int p3), .val (.int p4), .val (.int p5), .val (.int nn), .val (.int ea), .unset, .unset, .unset, .unset, .unset, .unset] [(.int (2 : Int32)), (.int p5)]))
    refine own_st (fun t k => XS.iand X0.here hx rfl (hb hby at_25) rfl k) ?_
    show own_G _ _ _ _ _ _ _ (s₁.setTop (mkF m 26 #[.val (.int p1), .val (.int p2), .val (.int p3), .val (.int p4), .val (.int p5), .val (.int nn), .val (.int ea), .unset, .unset, .unset, .unset, .unset, .unset] [(.int (p5 &&& (2 : Int32)))]))
    have J34 : ∀ (eb : Int32), own_G p.tables e below s (own_Q0 n0) room_1.cells room_1.slots (s₁.setTop (mkF m 34 #[.val (.int p1), .val (.int p2), .val (.int p3), .val (.int p4), .val (.int p5), .val (.int nn), .val (.int ea), .unset, .unset, .unset, .unset, .unset, .unset] [(.int eb)])) := by
      intro eb
      refine own_st (fun t k => XS.istore X0.here hx rfl (hb hby at_34) rfl (l' := #[.val (.int p1), .val (.int p2), .val (.int p3), .val (.int p4), .val (.int p5), .val (.int nn), .val (.int ea), .val (.int eb), .unset, .unset, .unset, .unset, .unset]) rfl k) ?_
      show own_G _ _ _ _ _ _ _ (s₁.setTop (mkF m 36 #[.val (.int p1), .val (.int p2), .val (.int p3), .val (.int p4), .val (.int p5), .val (.int nn), .val (.int ea), .val (.int eb), .unset, .unset, .unset, .unset, .unset] []))
      refine own_st (fun t k => XS.iload X0.here hx rfl (hb hby at_36) rfl k) ?_
      show own_G _ _ _ _ _ _ _ (s₁.setTop (mkF m 38 #[.val (.int p1), .val (.int p2), .val (.int p3), .val (.int p4), .val (.int p5), .val (.int nn), .val (.int ea), .val (.int eb), .unset, .unset, .unset, .unset, .unset] [(.int p5)]))
      refine own_st (fun t k => XS.bipush X0.here hx rfl (hb hby at_38) k) ?_
      show own_G _ _ _ _ _ _ _ (s₁.setTop (mkF m 40 #[.val (.int p1), .val (.int p2), .val (.int p3), .val (.int p4), .val (.int p5), .val (.int nn), .val (.int ea), .val (.int eb), .unset, .unset, .unset, .unset, .unset] [(.int (32 : Int32)), (.int p5)]))
      refine own_st (fun t k => XS.iand X0.here hx rfl (hb hby at_40) rfl k) ?_
      show own_G _ _ _ _ _ _ _ (s₁.setTop (mkF m 41 #[.val (.int p1), .val (.int p2), .val (.int p3), .val (.int p4), .val (.int p5), .val (.int nn), .val (.int ea), .val (.int eb), .unset, .unset, .unset, .unset, .unset] [(.int (p5 &&& (32 : Int32)))]))
      have J49 : ∀ (ec : Int32), own_G p.tables e below s (own_Q0 n0) room_1.cells room_1.slots (s₁.setTop (mkF m 49 #[.val (.int p1), .val (.int p2), .val (.int p3), .val (.int p4), .val (.int p5), .val (.int nn), .val (.int ea), .val (.int eb), .unset, .unset, .unset, .unset, .unset] [(.int ec)])) := by
        intro ec
        refine own_st (fun t k => XS.istore X0.here hx rfl (hb hby at_49) rfl (l' := #[.val (.int p1), .val (.int p2), .val (.int p3), .val (.int p4), .val (.int p5), .val (.int nn), .val (.int ea), .val (.int eb), .val (.int ec), .unset, .unset, .unset, .unset]) rfl k) ?_
        show own_G _ _ _ _ _ _ _ (s₁.setTop (mkF m 51 #[.val (.int p1), .val (.int p2), .val (.int p3), .val (.int p4), .val (.int p5), .val (.int nn), .val (.int ea), .val (.int eb), .val (.int ec), .unset, .unset, .unset, .unset] []))
        refine own_st (fun t k => XS.iloadN X0.here hx rfl (hb hby at_51) rfl k) ?_
        show own_G _ _ _ _ _ _ _ (s₁.setTop (mkF m 52 #[.val (.int p1), .val (.int p2), .val (.int p3), .val (.int p4), .val (.int p5), .val (.int nn), .val (.int ea), .val (.int eb), .val (.int ec), .unset, .unset, .unset, .unset] [(.int p1)]))
        refine own_st (fun t k => XS.istore X0.here hx rfl (hb hby at_52) rfl (l' := #[.val (.int p1), .val (.int p2), .val (.int p3), .val (.int p4), .val (.int p5), .val (.int nn), .val (.int ea), .val (.int eb), .val (.int ec), .val (.int p1), .unset, .unset, .unset]) rfl k) ?_
        show own_G _ _ _ _ _ _ _ (s₁.setTop (mkF m 54 #[.val (.int p1), .val (.int p2), .val (.int p3), .val (.int p4), .val (.int p5), .val (.int nn), .val (.int ea), .val (.int eb), .val (.int ec), .val (.int p1), .unset, .unset, .unset] []))
        obtain ⟨T229, h229, X229, e229, E229, A229, D229, -, st229⟩ := newO X0 hx hZ hown (hw _ (List.mem_of_getElem? (i := 0) rfl)) (hw _ (List.mem_of_getElem? (i := 1) rfl)) (hw _ (List.mem_of_getElem? (i := 2) rfl)) e0 (g := (mkF m 54 #[.val (.int p1), .val (.int p2), .val (.int p3), .val (.int p4), .val (.int p5), .val (.int nn), .val (.int ea), .val (.int eb), .val (.int ec), .val (.int p1), .unset, .unset, .unset] [])) rfl (hb hby at_54) (by decide) (by decide)
        obtain ⟨al, g229⟩ : ∃ z, z = h0.size := ⟨_, rfl⟩
        rw [← g229] at A229 D229 st229
        refine own_st (fun t k => st229 t k) ?_
        show own_G _ _ _ _ _ _ _ (T229.setTop (mkF m 57 #[.val (.int p1), .val (.int p2), .val (.int p3), .val (.int p4), .val (.int p5), .val (.int nn), .val (.int ea), .val (.int eb), .val (.int ec), .val (.int p1), .unset, .unset, .unset] [(.ref al)]))
        have ge_al : n0 ≤ al := Nat.le_trans Z0 (Nat.le_of_eq g229.symm)
        have O_230 := O0.ext E229
        have Zz231 : n0 ≤ h229.size := Nat.le_trans Z0 E229.1
        have Fm : Fld Z h229 al "java/util/AbstractList" "modCount" "I" (.int 0) := D229 (Or.inl (hw _ (List.mem_of_getElem? (i := 22) rfl))) (ty := .int) (by decide)
        have Fs : Fld Z h229 al "java/util/ArrayList" "size" "I" (.int 0) := D229 (Or.inl (hw _ (List.mem_of_getElem? (i := 57) rfl))) (ty := .int) (by decide)
        have Fe : Fld Z h229 al "java/util/ArrayList" "elementData" "[Ljava/lang/Object;" .null := D229 (Or.inl (hw _ (List.mem_of_getElem? (i := 25) rfl))) (ty := .array (.object "java/lang/Object")) (by decide)
        refine own_st (fun t k => XS.dup X229.here hx rfl (hb hby at_57) rfl rfl k) ?_
        show own_G _ _ _ _ _ _ _ (T229.setTop (mkF m 58 #[.val (.int p1), .val (.int p2), .val (.int p3), .val (.int p4), .val (.int p5), .val (.int nn), .val (.int ea), .val (.int eb), .val (.int ec), .val (.int p1), .unset, .unset, .unset] [(.ref al), (.ref al)]))
        obtain ⟨_, _, ⟨T232, L232, k232, n232⟩, -, X232, ⟨Lc232, hQ232, l232, y232, z232⟩, st232⟩ := X229.specialBack hx (y := (⟨"java/util/ArrayList", "<init>", "()V"⟩ : MethodName)) rfl hown (mvT hZ (hw _ (List.mem_of_getElem? (i := 3) rfl))) (mvT hZ (hw _ (List.mem_of_getElem? (i := 4) rfl))) (mvT hZ (hw _ (List.mem_of_getElem? (i := 5) rfl))) (by decide) (backOf (W := 1) (own_rm5 l Z a0 hw [] al df h229 n0 Zz231 A229 Fm Fs Fe ge_al O_230 Sd) hZ (hw _ (List.mem_of_getElem? (i := 5) rfl)) (hw _ (List.mem_of_getElem? (i := 2) rfl)) (by decide) (by decide)) (g := (mkF m 58 #[.val (.int p1), .val (.int p2), .val (.int p3), .val (.int p4), .val (.int p5), .val (.int nn), .val (.int ea), .val (.int eb), .val (.int ec), .val (.int p1), .unset, .unset, .unset] [(.ref al), (.ref al)])) rfl (by rw [hml]; rfl) (Steps.refl _) (a := al) (argsL := []) (rest := [(.ref al)]) (lenOf own_pd1 rfl) rfl (by show 2 * 0 + _ ≤ _; exact Nat.le_of_eq rfl) (hb hby at_58) (fun _ _ => ⟨rfl, e229, (by decide : 1 + 0 ≤ _), (by decide : 3 + 0 ≤ _)⟩)
        dsimp only [Pt.U, Pt.locs, Pt.cells, Pt.slots] at X232 l232 y232 z232 st232 hQ232
        subst l232 y232 z232
        obtain ⟨rfl, N232q, K232, Ea232, Fa232, Fb232, Fc232⟩ := hQ232
        have N232 := Fr.app N0 N232q
        refine own_st (fun t k => st232.trans k) ?_
        show own_G _ _ _ _ _ _ _ (T232.setTop (mkF m 61 #[.val (.int p1), .val (.int p2), .val (.int p3), .val (.int p4), .val (.int p5), .val (.int nn), .val (.int ea), .val (.int eb), .val (.int ec), .val (.int p1), .unset, .unset, .unset] [(.ref al)]))
        have O_233 := O_230.keep K232 (allS ge_al all0)
        have Zz234 : n0 ≤ _ := Nat.le_trans Zz231 K232.1
        have nf : df ≠ al := O_233.ne Vf.lt ge_al
        refine own_st (fun t k => XS.astore X232.here hx rfl (hb hby at_61) rfl rfl (l' := #[.val (.int p1), .val (.int p2), .val (.int p3), .val (.int p4), .val (.int p5), .val (.int nn), .val (.int ea), .val (.int eb), .val (.int ec), .val (.int p1), .val (.ref al), .unset, .unset]) rfl k) ?_
        show own_G _ _ _ _ _ _ _ (T232.setTop (mkF m 63 #[.val (.int p1), .val (.int p2), .val (.int p3), .val (.int p4), .val (.int p5), .val (.int nn), .val (.int ea), .val (.int eb), .val (.int ec), .val (.int p1), .val (.ref al), .unset, .unset] []))
        refine own_st (fun t k => XS.iload X232.here hx rfl (hb hby at_63) rfl k) ?_
        show own_G _ _ _ _ _ _ _ (T232.setTop (mkF m 65 #[.val (.int p1), .val (.int p2), .val (.int p3), .val (.int p4), .val (.int p5), .val (.int nn), .val (.int ea), .val (.int eb), .val (.int ec), .val (.int p1), .val (.ref al), .unset, .unset] [(.int nn)]))
        rcases hn5 with rfl | rfl | rfl | rfl | rfl
        · show own_G _ _ _ _ _ _ _ (T232.setTop (mkF m 65 #[.val (.int p1), .val (.int p2), .val (.int p3), .val (.int p4), .val (.int p5), .val (.int (0 : Int32)), .val (.int ea), .val (.int eb), .val (.int ec), .val (.int p1), .val (.ref al), .unset, .unset] [(.int (0 : Int32))]))
          refine own_st (fun t k => XS.ifYes X232.here hx rfl (pc0 := 65) (pc' := 79) rfl (hb hby at_65) rfl ((if0 _ _).trans (flt (by decide)).2.2.2) (by decide) (by decide) k) ?_
          show own_G _ _ _ _ _ _ _ (T232.setTop (mkF m 79 #[.val (.int p1), .val (.int p2), .val (.int p3), .val (.int p4), .val (.int p5), .val (.int (0 : Int32)), .val (.int ea), .val (.int eb), .val (.int ec), .val (.int p1), .val (.ref al), .unset, .unset] []))
          refine own_st (fun t k => XS.iload X232.here hx rfl (hb hby at_79) rfl k) ?_
          show own_G _ _ _ _ _ _ _ (T232.setTop (mkF m 81 #[.val (.int p1), .val (.int p2), .val (.int p3), .val (.int p4), .val (.int p5), .val (.int (0 : Int32)), .val (.int ea), .val (.int eb), .val (.int ec), .val (.int p1), .val (.ref al), .unset, .unset] [(.int (0 : Int32))]))
          refine own_st (fun t k => XS.iconst X232.here hx rfl (hb hby at_81) k) ?_
          show own_G _ _ _ _ _ _ _ (T232.setTop (mkF m 82 #[.val (.int p1), .val (.int p2), .val (.int p3), .val (.int p4), .val (.int p5), .val (.int (0 : Int32)), .val (.int ea), .val (.int eb), .val (.int ec), .val (.int p1), .val (.ref al), .unset, .unset] [(.int (1 : Int32)), (.int (0 : Int32))]))
          refine own_st (fun t k => XS.icmpYes X232.here hx rfl (pc0 := 82) (pc' := 96) rfl (hb hby at_82) rfl (flt (by decide)).2.2.2 (by decide) (by decide) k) ?_
          show own_G _ _ _ _ _ _ _ (T232.setTop (mkF m 96 #[.val (.int p1), .val (.int p2), .val (.int p3), .val (.int p4), .val (.int p5), .val (.int (0 : Int32)), .val (.int ea), .val (.int eb), .val (.int ec), .val (.int p1), .val (.ref al), .unset, .unset] []))
          refine own_st (fun t k => XS.iload X232.here hx rfl (hb hby at_96) rfl k) ?_
          show own_G _ _ _ _ _ _ _ (T232.setTop (mkF m 98 #[.val (.int p1), .val (.int p2), .val (.int p3), .val (.int p4), .val (.int p5), .val (.int (0 : Int32)), .val (.int ea), .val (.int eb), .val (.int ec), .val (.int p1), .val (.ref al), .unset, .unset] [(.int (0 : Int32))]))
          refine own_st (fun t k => XS.iconst X232.here hx rfl (hb hby at_98) k) ?_
          show own_G _ _ _ _ _ _ _ (T232.setTop (mkF m 99 #[.val (.int p1), .val (.int p2), .val (.int p3), .val (.int p4), .val (.int p5), .val (.int (0 : Int32)), .val (.int ea), .val (.int eb), .val (.int ec), .val (.int p1), .val (.ref al), .unset, .unset] [(.int (2 : Int32)), (.int (0 : Int32))]))
          refine own_st (fun t k => XS.icmpYes X232.here hx rfl (pc0 := 99) (pc' := 113) rfl (hb hby at_99) rfl (flt (by decide)).2.2.2 (by decide) (by decide) k) ?_
          show own_G _ _ _ _ _ _ _ (T232.setTop (mkF m 113 #[.val (.int p1), .val (.int p2), .val (.int p3), .val (.int p4), .val (.int p5), .val (.int (0 : Int32)), .val (.int ea), .val (.int eb), .val (.int ec), .val (.int p1), .val (.ref al), .unset, .unset] []))
          refine own_st (fun t k => XS.iload X232.here hx rfl (hb hby at_113) rfl k) ?_
          show own_G _ _ _ _ _ _ _ (T232.setTop (mkF m 115 #[.val (.int p1), .val (.int p2), .val (.int p3), .val (.int p4), .val (.int p5), .val (.int (0 : Int32)), .val (.int ea), .val (.int eb), .val (.int ec), .val (.int p1), .val (.ref al), .unset, .unset] [(.int (0 : Int32))]))
          refine own_st (fun t k => XS.iconst X232.here hx rfl (hb hby at_115) k) ?_
          show own_G _ _ _ _ _ _ _ (T232.setTop (mkF m 116 #[.val (.int p1), .val (.int p2), .val (.int p3), .val (.int p4), .val (.int p5), .val (.int (0 : Int32)), .val (.int ea), .val (.int eb), .val (.int ec), .val (.int p1), .val (.ref al), .unset, .unset] [(.int (3 : Int32)), (.int (0 : Int32))]))
          refine own_st (fun t k => XS.icmpYes X232.here hx rfl (pc0 := 116) (pc' := 130) rfl (hb hby at_116) rfl (flt (by decide)).2.2.2 (by decide) (by decide) k) ?_
          show own_G _ _ _ _ _ _ _ (T232.setTop (mkF m 130 #[.val (.int p1), .val (.int p2), .val (.int p3), .val (.int p4), .val (.int p5), .val (.int (0 : Int32)), .val (.int ea), .val (.int eb), .val (.int ec), .val (.int p1), .val (.ref al), .unset, .unset] []))
          refine own_st (fun t k => XS.iload X232.here hx rfl (hb hby at_130) rfl k) ?_
          show own_G _ _ _ _ _ _ _ (T232.setTop (mkF m 132 #[.val (.int p1), .val (.int p2), .val (.int p3), .val (.int p4), .val (.int p5), .val (.int (0 : Int32)), .val (.int ea), .val (.int eb), .val (.int ec), .val (.int p1), .val (.ref al), .unset, .unset] [(.int (0 : Int32))]))
          refine own_st (fun t k => XS.iconst X232.here hx rfl (hb hby at_132) k) ?_
          show own_G _ _ _ _ _ _ _ (T232.setTop (mkF m 133 #[.val (.int p1), .val (.int p2), .val (.int p3), .val (.int p4), .val (.int p5), .val (.int (0 : Int32)), .val (.int ea), .val (.int eb), .val (.int ec), .val (.int p1), .val (.ref al), .unset, .unset] [(.int (2 : Int32)), (.int (0 : Int32))]))
          refine own_st (fun t k => XS.icmpYes X232.here hx rfl (pc0 := 133) (pc' := 152) rfl (hb hby at_133) rfl (feq (by decide)).2 (by decide) (by decide) k) ?_
          show own_G _ _ _ _ _ _ _ (T232.setTop (mkF m 152 #[.val (.int p1), .val (.int p2), .val (.int p3), .val (.int p4), .val (.int p5), .val (.int (0 : Int32)), .val (.int ea), .val (.int eb), .val (.int ec), .val (.int p1), .val (.ref al), .unset, .unset] []))
          refine own_st (fun t k => XS.iconst X232.here hx rfl (hb hby at_152) k) ?_
          show own_G _ _ _ _ _ _ _ (T232.setTop (mkF m 153 #[.val (.int p1), .val (.int p2), .val (.int p3), .val (.int p4), .val (.int p5), .val (.int (0 : Int32)), .val (.int ea), .val (.int eb), .val (.int ec), .val (.int p1), .val (.ref al), .unset, .unset] [(.int (0 : Int32))]))
          refine own_st (fun t k => XS.istore X232.here hx rfl (hb hby at_153) rfl (l' := #[.val (.int p1), .val (.int p2), .val (.int p3), .val (.int p4), .val (.int p5), .val (.int (0 : Int32)), .val (.int ea), .val (.int eb), .val (.int ec), .val (.int p1), .val (.ref al), .val (.int (0 : Int32)), .unset]) rfl k) ?_
          show own_G _ _ _ _ _ _ _ (T232.setTop (mkF m 155 #[.val (.int p1), .val (.int p2), .val (.int p3), .val (.int p4), .val (.int p5), .val (.int (0 : Int32)), .val (.int ea), .val (.int eb), .val (.int ec), .val (.int p1), .val (.ref al), .val (.int (0 : Int32)), .unset] []))
          obtain ⟨T235, h235, X235, e235, E235, A235, D235, -, st235⟩ := newO X232 hx hZ hown (hw _ (List.mem_of_getElem? (i := 26) rfl)) (hw _ (List.mem_of_getElem? (i := 27) rfl)) (hw _ (List.mem_of_getElem? (i := 28) rfl)) rfl (g := (mkF m 155 #[.val (.int p1), .val (.int p2), .val (.int p3), .val (.int p4), .val (.int p5), .val (.int (0 : Int32)), .val (.int ea), .val (.int eb), .val (.int ec), .val (.int p1), .val (.ref al), .val (.int (0 : Int32)), .unset] [])) rfl (hb hby at_155) (by decide) (by decide)
          obtain ⟨ch, g235⟩ : ∃ z, z = T232.heap.size := ⟨_, rfl⟩
          rw [← g235] at A235 D235 st235
          refine own_st (fun t k => st235 t k) ?_
          show own_G _ _ _ _ _ _ _ (T235.setTop (mkF m 158 #[.val (.int p1), .val (.int p2), .val (.int p3), .val (.int p4), .val (.int p5), .val (.int (0 : Int32)), .val (.int ea), .val (.int eb), .val (.int ec), .val (.int p1), .val (.ref al), .val (.int (0 : Int32)), .unset] [(.ref ch)]))
          have ge_ch : n0 ≤ ch := Nat.le_trans Zz234 (Nat.le_of_eq g235.symm)
          have ne_al_ch : al ≠ ch := Nat.ne_of_lt (Nat.lt_of_lt_of_le Ea232.lt (Nat.le_of_eq g235.symm))
          have O_236 := O_233.ext E235
          have E_237 := Ea232.ext E235
          have fm_238 := Fa232.ext E235
          have fs_239 := Fb232.ext E235
          have fe_240 := Fc232.ext E235
          have Zz241 : n0 ≤ h235.size := Nat.le_trans Zz234 E235.1
          have R1 : Fld Z h235 ch "com/example/strigine/strigine/Roles$Chain" "roles" "Ljava/util/List;" .null := D235 (Or.inr (hw _ (List.mem_of_getElem? (i := 39) rfl))) (ty := .object "java/util/List") (by decide)
          have R2 : Fld Z h235 ch "com/example/strigine/strigine/Roles$Chain" "sup" "I" (.int 0) := D235 (Or.inr (hw _ (List.mem_of_getElem? (i := 41) rfl))) (ty := .int) (by decide)
          refine own_st (fun t k => XS.dup X235.here hx rfl (hb hby at_158) rfl rfl k) ?_
          show own_G _ _ _ _ _ _ _ (T235.setTop (mkF m 159 #[.val (.int p1), .val (.int p2), .val (.int p3), .val (.int p4), .val (.int p5), .val (.int (0 : Int32)), .val (.int ea), .val (.int eb), .val (.int ec), .val (.int p1), .val (.ref al), .val (.int (0 : Int32)), .unset] [(.ref ch), (.ref ch)]))
          refine own_st (fun t k => XS.aload X235.here hx rfl (hb hby at_159) rfl rfl k) ?_
          show own_G _ _ _ _ _ _ _ (T235.setTop (mkF m 161 #[.val (.int p1), .val (.int p2), .val (.int p3), .val (.int p4), .val (.int p5), .val (.int (0 : Int32)), .val (.int ea), .val (.int eb), .val (.int ec), .val (.int p1), .val (.ref al), .val (.int (0 : Int32)), .unset] [(.ref al), (.ref ch), (.ref ch)]))
          refine own_st (fun t k => XS.iloadN X235.here hx rfl (hb hby at_161) rfl k) ?_
          show own_G _ _ _ _ _ _ _ (T235.setTop (mkF m 162 #[.val (.int p1), .val (.int p2), .val (.int p3), .val (.int p4), .val (.int p5), .val (.int (0 : Int32)), .val (.int ea), .val (.int eb), .val (.int ec), .val (.int p1), .val (.ref al), .val (.int (0 : Int32)), .unset] [(.int p1), (.ref al), (.ref ch), (.ref ch)]))
          obtain ⟨_, _, ⟨T242, L242, k242, n242⟩, -, X242, ⟨Lc242, hQ242, l242, y242, z242⟩, st242⟩ := X235.specialBack hx (y := (⟨"com/example/strigine/strigine/Roles$Chain", "<init>", "(Ljava/util/List;I)V"⟩ : MethodName)) rfl hown (mvT hZ (hw _ (List.mem_of_getElem? (i := 29) rfl))) (mvT hZ (hw _ (List.mem_of_getElem? (i := 30) rfl))) (mvT hZ (hw _ (List.mem_of_getElem? (i := 31) rfl))) (by decide) (backOf (W := 1) (own_rm40 l Z a0 hw [] ch al p1 h235 n0 Zz241 A235 R1 R2 ge_ch) hZ (hw _ (List.mem_of_getElem? (i := 31) rfl)) (hw _ (List.mem_of_getElem? (i := 28) rfl)) (by decide) (by decide)) (g := (mkF m 162 #[.val (.int p1), .val (.int p2), .val (.int p3), .val (.int p4), .val (.int p5), .val (.int (0 : Int32)), .val (.int ea), .val (.int eb), .val (.int ec), .val (.int p1), .val (.ref al), .val (.int (0 : Int32)), .unset] [(.int p1), (.ref al), (.ref ch), (.ref ch)])) rfl (by rw [hml]; rfl) (Steps.refl _) (a := ch) (argsL := [(.ref al), (.int p1)]) (rest := [(.ref ch)]) (lenOf own_pd2 rfl) rfl (by show 2 * 0 + _ ≤ _; exact Nat.le_of_eq rfl) (hb hby at_162) (fun _ _ => ⟨rfl, e235, (by decide : 2 + 0 ≤ _), (by decide : 5 + 0 ≤ _)⟩)
          dsimp only [Pt.U, Pt.locs, Pt.cells, Pt.slots] at X242 l242 y242 z242 st242 hQ242
          subst l242 y242 z242
          obtain ⟨rfl, N242q, K242, Ec242, Fr242, Fu242⟩ := hQ242
          have N242 := Fr.app N232 N242q
          refine own_st (fun t k => st242.trans k) ?_
          show own_G _ _ _ _ _ _ _ (T242.setTop (mkF m 165 #[.val (.int p1), .val (.int p2), .val (.int p3), .val (.int p4), .val (.int p5), .val (.int (0 : Int32)), .val (.int ea), .val (.int eb), .val (.int ec), .val (.int p1), .val (.ref al), .val (.int (0 : Int32)), .unset] [(.ref ch)]))
          have O_243 := O_236.keep K242 (allS ge_ch all0)
          have E_244 := E_237.keep K242
          have fm_245 := fm_238.keep K242 (ninS ne_al_ch nin0)
          have fs_246 := fs_239.keep K242 (ninS ne_al_ch nin0)
          have fe_247 := fe_240.keep K242 (ninS ne_al_ch nin0)
          have Zz248 : n0 ≤ _ := Nat.le_trans Zz241 K242.1
          obtain ⟨cq249, kq249, q249a, q249b, q249c⟩ := isOf hZ rfl Ec242
          obtain ⟨_, _, ⟨T249, L249, k249, n249⟩, -, X249, ⟨Lc249, hQ249, l249, y249, z249⟩, st249⟩ := X242.virtualBack hx (y := (⟨"com/example/strigine/strigine/Roles$Chain", "isTransitivity", "()Z"⟩ : MethodName)) (z := (⟨"com/example/strigine/strigine/Roles$Chain", "isTransitivity", "()Z"⟩ : MethodName)) hown (mvT hZ (hw _ (List.mem_of_getElem? (i := 42) rfl))) (mvT hZ (hw _ (List.mem_of_getElem? (i := 43) rfl))) (notFace_of_selects (args := #[]) (mvT hZ (hw _ (List.mem_of_getElem? (i := 45) rfl)))) (mvT hZ (hw _ (List.mem_of_getElem? (i := 45) rfl))) (mvT hZ (hw _ (List.mem_of_getElem? (i := 44) rfl))) (by decide) (backOf (W := 0) (own_rm41 l Z a0 hw [] ch al p1 (0 : Int32) T242.heap n0 Zz248 Fr242 Fu242 E_244 fs_246 (by decide)) hZ (hw _ (List.mem_of_getElem? (i := 46) rfl)) (hw _ (List.mem_of_getElem? (i := 28) rfl)) (by decide) (by decide)) q249a q249c (g := (mkF m 165 #[.val (.int p1), .val (.int p2), .val (.int p3), .val (.int p4), .val (.int p5), .val (.int (0 : Int32)), .val (.int ea), .val (.int eb), .val (.int ec), .val (.int p1), .val (.ref al), .val (.int (0 : Int32)), .unset] [(.ref ch)])) rfl (by rw [hml]; rfl) (Steps.refl _) (argsL := []) (rest := []) (lenOf own_pd3 rfl) rfl (by show 2 * 0 + _ ≤ _; exact Nat.le_of_eq rfl) (hb hby at_165) (fun _ _ => ⟨rfl, rfl, (by decide : 2 + 0 ≤ _), (by decide : 5 + 0 ≤ _)⟩)
          dsimp only [Pt.U, Pt.locs, Pt.cells, Pt.slots] at X249 l249 y249 z249 st249 hQ249
          subst l249 y249 z249
          obtain ⟨rfl, N249q, e249⟩ := hQ249
          have N249 := Fr.app N242 N249q
          refine own_st (fun t k => st249.trans k) ?_
          show own_G _ _ _ _ _ _ _ (T249.setTop (mkF m 168 #[.val (.int p1), .val (.int p2), .val (.int p3), .val (.int p4), .val (.int p5), .val (.int (0 : Int32)), .val (.int ea), .val (.int eb), .val (.int ec), .val (.int p1), .val (.ref al), .val (.int (0 : Int32)), .unset] [(.int (0 : Int32))]))
          refine own_st (fun t k => XS.istore X249.here hx rfl (hb hby at_168) rfl (l' := #[.val (.int p1), .val (.int p2), .val (.int p3), .val (.int p4), .val (.int p5), .val (.int (0 : Int32)), .val (.int ea), .val (.int eb), .val (.int ec), .val (.int p1), .val (.ref al), .val (.int (0 : Int32)), .val (.int (0 : Int32))]) rfl k) ?_
          show own_G _ _ _ _ _ _ _ (T249.setTop (mkF m 170 #[.val (.int p1), .val (.int p2), .val (.int p3), .val (.int p4), .val (.int p5), .val (.int (0 : Int32)), .val (.int ea), .val (.int eb), .val (.int ec), .val (.int p1), .val (.ref al), .val (.int (0 : Int32)), .val (.int (0 : Int32))] []))
          refine own_st (fun t k => XS.iload X249.here hx rfl (hb hby at_170) rfl k) ?_
          show own_G _ _ _ _ _ _ _ (T249.setTop (mkF m 172 #[.val (.int p1), .val (.int p2), .val (.int p3), .val (.int p4), .val (.int p5), .val (.int (0 : Int32)), .val (.int ea), .val (.int eb), .val (.int ec), .val (.int p1), .val (.ref al), .val (.int (0 : Int32)), .val (.int (0 : Int32))] [(.int (0 : Int32))]))
          refine own_st (fun t k => XS.iload X249.here hx rfl (hb hby at_172) rfl k) ?_
          show own_G _ _ _ _ _ _ _ (T249.setTop (mkF m 174 #[.val (.int p1), .val (.int p2), .val (.int p3), .val (.int p4), .val (.int p5), .val (.int (0 : Int32)), .val (.int ea), .val (.int eb), .val (.int ec), .val (.int p1), .val (.ref al), .val (.int (0 : Int32)), .val (.int (0 : Int32))] [(.int (0 : Int32)), (.int (0 : Int32))]))
          refine own_st (fun t k => XS.icmpNo X249.here hx rfl (hb hby at_174) rfl (teq rfl).2 k) ?_
          show own_G _ _ _ _ _ _ _ (T249.setTop (mkF m 177 #[.val (.int p1), .val (.int p2), .val (.int p3), .val (.int p4), .val (.int p5), .val (.int (0 : Int32)), .val (.int ea), .val (.int eb), .val (.int ec), .val (.int p1), .val (.ref al), .val (.int (0 : Int32)), .val (.int (0 : Int32))] []))
          refine own_st (fun t k => XS.iconst X249.here hx rfl (hb hby at_177) k) ?_
          show own_G _ _ _ _ _ _ _ (T249.setTop (mkF m 178 #[.val (.int p1), .val (.int p2), .val (.int p3), .val (.int p4), .val (.int p5), .val (.int (0 : Int32)), .val (.int ea), .val (.int eb), .val (.int ec), .val (.int p1), .val (.ref al), .val (.int (0 : Int32)), .val (.int (0 : Int32))] [(.int (1 : Int32))]))
          refine own_st (fun t k => XS.goto X249.here hx rfl (pc0 := 178) (pc' := 182) rfl (hb hby at_178) (by decide) (by decide) k) ?_
          show own_G _ _ _ _ _ _ _ (T249.setTop (mkF m 182 #[.val (.int p1), .val (.int p2), .val (.int p3), .val (.int p4), .val (.int p5), .val (.int (0 : Int32)), .val (.int ea), .val (.int eb), .val (.int ec), .val (.int p1), .val (.ref al), .val (.int (0 : Int32)), .val (.int (0 : Int32))] [(.int (1 : Int32))]))
          exact own_retN (t := .boolean) (by simp) X249 hx Bd.returns (BodyLoose.notSynchronized Bd) (hb hby at_182) (by decide) (by decide) ⟨rfl, N249⟩
        · show own_G _ _ _ _ _ _ _ (T232.setTop (mkF m 65 #[.val (.int p1), .val (.int p2), .val (.int p3), .val (.int p4), .val (.int p5), .val (.int (1 : Int32)), .val (.int ea), .val (.int eb), .val (.int ec), .val (.int p1), .val (.ref al), .unset, .unset] [(.int (1 : Int32))]))
          refine own_st (fun t k => XS.ifNo X232.here hx rfl (hb hby at_65) rfl ((if0 _ _).trans (tlt (by decide)).2.2.2) k) ?_
          show own_G _ _ _ _ _ _ _ (T232.setTop (mkF m 68 #[.val (.int p1), .val (.int p2), .val (.int p3), .val (.int p4), .val (.int p5), .val (.int (1 : Int32)), .val (.int ea), .val (.int eb), .val (.int ec), .val (.int p1), .val (.ref al), .unset, .unset] []))
          refine own_st (fun t k => XS.aload X232.here hx rfl (hb hby at_68) rfl rfl k) ?_
          show own_G _ _ _ _ _ _ _ (T232.setTop (mkF m 70 #[.val (.int p1), .val (.int p2), .val (.int p3), .val (.int p4), .val (.int p5), .val (.int (1 : Int32)), .val (.int ea), .val (.int eb), .val (.int ec), .val (.int p1), .val (.ref al), .unset, .unset] [(.ref al)]))
          refine own_st (fun t k => XS.iload X232.here hx rfl (hb hby at_70) rfl k) ?_
          show own_G _ _ _ _ _ _ _ (T232.setTop (mkF m 72 #[.val (.int p1), .val (.int p2), .val (.int p3), .val (.int p4), .val (.int p5), .val (.int (1 : Int32)), .val (.int ea), .val (.int eb), .val (.int ec), .val (.int p1), .val (.ref al), .unset, .unset] [(.int ea), (.ref al)]))
          obtain ⟨_, _, ⟨T250, L250, k250, n250⟩, -, X250, ⟨Lc250, hQ250, l250, y250, z250⟩, st250⟩ := Jvm.LawKit.callS X232 hx (y := (⟨"java/lang/Integer", "valueOf", "(I)Ljava/lang/Integer;"⟩ : MethodName)) hown (mvT hZ (hw _ (List.mem_of_getElem? (i := 58) rfl))) (mvT hZ (hw _ (List.mem_of_getElem? (i := 59) rfl))) (mvT hZ (hw _ (List.mem_of_getElem? (i := 60) rfl))) (mvT hZ (hw _ (List.mem_of_getElem? (i := 61) rfl))) (by decide) (backOf (W := 1) (own_rm7 l Z a0 hw [] ea ca cc T232.heap n0 Zz234 O_233 Sh Sc Bx) hZ (hw _ (List.mem_of_getElem? (i := 61) rfl)) (hw _ (List.mem_of_getElem? (i := 60) rfl)) (by decide) (by decide)) (g := (mkF m 72 #[.val (.int p1), .val (.int p2), .val (.int p3), .val (.int p4), .val (.int p5), .val (.int (1 : Int32)), .val (.int ea), .val (.int eb), .val (.int ec), .val (.int p1), .val (.ref al), .unset, .unset] [(.int ea), (.ref al)])) rfl (by rw [hml]; rfl) (argsL := [(.int ea)]) (rest := [(.ref al)]) (lenOf own_pd5 rfl) rfl (by show 2 * 0 + _ ≤ _; exact Nat.le_of_eq rfl) (hb hby at_72) (fun _ _ => ⟨rfl, rfl, (by decide : 1 + 1 ≤ _), (by decide : 3 + 1 ≤ _)⟩)
          dsimp only [Pt.U, Pt.locs, Pt.cells, Pt.slots] at X250 l250 y250 z250 st250 hQ250
          subst l250 y250 z250
          obtain ⟨x_0, rfl, N250q, K250, Eb250, Vb250⟩ := hQ250
          have N250 := Fr.app N232 N250q
          refine own_st (fun t k => st250 t k) ?_
          show own_G _ _ _ _ _ _ _ (T250.setTop (mkF m 75 #[.val (.int p1), .val (.int p2), .val (.int p3), .val (.int p4), .val (.int p5), .val (.int (1 : Int32)), .val (.int ea), .val (.int eb), .val (.int ec), .val (.int p1), .val (.ref al), .unset, .unset] [(.ref x_0), (.ref al)]))
          have O_251 := O_233.keep K250 all0
          have E_252 := Ea232.keep K250
          have fm_253 := Fa232.keep K250 nin0
          have fs_254 := Fb232.keep K250 nin0
          have fe_255 := Fc232.keep K250 nin0
          have Zz256 : n0 ≤ _ := Nat.le_trans Zz234 K250.1
          have ne_x_0_al : x_0 ≠ al := ne_exa Eb250 E_252 (by decide)
          obtain ⟨cq257, kq257, q257a, q257b, q257c⟩ := isOf hZ rfl E_252
          obtain ⟨_, _, ⟨T257, L257, k257, n257⟩, -, X257, ⟨Lc257, hQ257, l257, y257, z257⟩, st257⟩ := X250.virtualBack hx (y := (⟨"java/util/ArrayList", "add", "(Ljava/lang/Object;)Z"⟩ : MethodName)) (z := (⟨"java/util/ArrayList", "add", "(Ljava/lang/Object;)Z"⟩ : MethodName)) hown (mvT hZ (hw _ (List.mem_of_getElem? (i := 65) rfl))) (mvT hZ (hw _ (List.mem_of_getElem? (i := 66) rfl))) (notFace_of_selects (args := #[]) (mvT hZ (hw _ (List.mem_of_getElem? (i := 68) rfl)))) (mvT hZ (hw _ (List.mem_of_getElem? (i := 68) rfl))) (mvT hZ (hw _ (List.mem_of_getElem? (i := 67) rfl))) (by decide) (backOf (W := 0) (own_rm18 l Z a0 hw [] al x_0 (0 : Int32) df kf T250.heap n0 Zz256 E_252 fm_253 fs_254 fe_255 ge_al (Sd.ext O_251.2) (Vf.ext O_251.2) Eb250 nf) hZ (hw _ (List.mem_of_getElem? (i := 69) rfl)) (hw _ (List.mem_of_getElem? (i := 2) rfl)) (by decide) (by decide)) q257a q257c (g := (mkF m 75 #[.val (.int p1), .val (.int p2), .val (.int p3), .val (.int p4), .val (.int p5), .val (.int (1 : Int32)), .val (.int ea), .val (.int eb), .val (.int ec), .val (.int p1), .val (.ref al), .unset, .unset] [(.ref x_0), (.ref al)])) rfl (by rw [hml]; rfl) (Steps.refl _) (argsL := [(.ref x_0)]) (rest := []) (lenOf own_pd6 rfl) rfl (by show 2 * 0 + _ ≤ _; exact Nat.le_of_eq rfl) (hb hby at_75) (fun _ _ => ⟨rfl, rfl, (by decide : 2 + 1 ≤ _), (by decide : 4 + 10 ≤ _)⟩)
          dsimp only [Pt.U, Pt.locs, Pt.cells, Pt.slots] at X257 l257 y257 z257 st257 hQ257
          subst l257 y257 z257
          obtain ⟨d1, k1, rfl, N257q, K257, Ea257, Fa257, Fb257, Fc257, Vd257, Ov257, s1257, s2257⟩ := hQ257
          have N257 := Fr.app N250 N257q
          refine own_st (fun t k => st257.trans k) ?_
          show own_G _ _ _ _ _ _ _ (T257.setTop (mkF m 78 #[.val (.int p1), .val (.int p2), .val (.int p3), .val (.int p4), .val (.int p5), .val (.int (1 : Int32)), .val (.int ea), .val (.int eb), .val (.int ec), .val (.int p1), .val (.ref al), .unset, .unset] [(.int (1 : Int32))]))
          have ne_al_d1 : al ≠ d1 := Nat.ne_of_lt (Nat.lt_of_lt_of_le E_252.lt s1257)
          have ne_x_0_d1 : x_0 ≠ d1 := Nat.ne_of_lt (Nat.lt_of_lt_of_le Eb250.lt s1257)
          have O_258 := O_251.keep K257 (allS ge_al all0)
          have E_259 := E_252.keep K257
          have X0_260 := Eb250.keep K257
          have XV0_261 := Vb250.keep K257 (ninS ne_x_0_al nin0)
          have Zz262 : n0 ≤ _ := Nat.le_trans Zz256 K257.1
          refine own_st (fun t k => XS.pop X257.here hx rfl (hb hby at_78) rfl rfl k) ?_
          show own_G _ _ _ _ _ _ _ (T257.setTop (mkF m 79 #[.val (.int p1), .val (.int p2), .val (.int p3), .val (.int p4), .val (.int p5), .val (.int (1 : Int32)), .val (.int ea), .val (.int eb), .val (.int ec), .val (.int p1), .val (.ref al), .unset, .unset] []))
          refine own_st (fun t k => XS.iload X257.here hx rfl (hb hby at_79) rfl k) ?_
          show own_G _ _ _ _ _ _ _ (T257.setTop (mkF m 81 #[.val (.int p1), .val (.int p2), .val (.int p3), .val (.int p4), .val (.int p5), .val (.int (1 : Int32)), .val (.int ea), .val (.int eb), .val (.int ec), .val (.int p1), .val (.ref al), .unset, .unset] [(.int (1 : Int32))]))
          refine own_st (fun t k => XS.iconst X257.here hx rfl (hb hby at_81) k) ?_
          show own_G _ _ _ _ _ _ _ (T257.setTop (mkF m 82 #[.val (.int p1), .val (.int p2), .val (.int p3), .val (.int p4), .val (.int p5), .val (.int (1 : Int32)), .val (.int ea), .val (.int eb), .val (.int ec), .val (.int p1), .val (.ref al), .unset, .unset] [(.int (1 : Int32)), (.int (1 : Int32))]))
          refine own_st (fun t k => XS.icmpYes X257.here hx rfl (pc0 := 82) (pc' := 96) rfl (hb hby at_82) rfl (flt (by decide)).2.2.2 (by decide) (by decide) k) ?_
          show own_G _ _ _ _ _ _ _ (T257.setTop (mkF m 96 #[.val (.int p1), .val (.int p2), .val (.int p3), .val (.int p4), .val (.int p5), .val (.int (1 : Int32)), .val (.int ea), .val (.int eb), .val (.int ec), .val (.int p1), .val (.ref al), .unset, .unset] []))
          refine own_st (fun t k => XS.iload X257.here hx rfl (hb hby at_96) rfl k) ?_
          show own_G _ _ _ _ _ _ _ (T257.setTop (mkF m 98 #[.val (.int p1), .val (.int p2), .val (.int p3), .val (.int p4), .val (.int p5), .val (.int (1 : Int32)), .val (.int ea), .val (.int eb), .val (.int ec), .val (.int p1), .val (.ref al), .unset, .unset] [(.int (1 : Int32))]))
          refine own_st (fun t k => XS.iconst X257.here hx rfl (hb hby at_98) k) ?_
          show own_G _ _ _ _ _ _ _ (T257.setTop (mkF m 99 #[.val (.int p1), .val (.int p2), .val (.int p3), .val (.int p4), .val (.int p5), .val (.int (1 : Int32)), .val (.int ea), .val (.int eb), .val (.int ec), .val (.int p1), .val (.ref al), .unset, .unset] [(.int (2 : Int32)), (.int (1 : Int32))]))
          refine own_st (fun t k => XS.icmpYes X257.here hx rfl (pc0 := 99) (pc' := 113) rfl (hb hby at_99) rfl (flt (by decide)).2.2.2 (by decide) (by decide) k) ?_
          show own_G _ _ _ _ _ _ _ (T257.setTop (mkF m 113 #[.val (.int p1), .val (.int p2), .val (.int p3), .val (.int p4), .val (.int p5), .val (.int (1 : Int32)), .val (.int ea), .val (.int eb), .val (.int ec), .val (.int p1), .val (.ref al), .unset, .unset] []))
          refine own_st (fun t k => XS.iload X257.here hx rfl (hb hby at_113) rfl k) ?_
          show own_G _ _ _ _ _ _ _ (T257.setTop (mkF m 115 #[.val (.int p1), .val (.int p2), .val (.int p3), .val (.int p4), .val (.int p5), .val (.int (1 : Int32)), .val (.int ea), .val (.int eb), .val (.int ec), .val (.int p1), .val (.ref al), .unset, .unset] [(.int (1 : Int32))]))
          refine own_st (fun t k => XS.iconst X257.here hx rfl (hb hby at_115) k) ?_
          show own_G _ _ _ _ _ _ _ (T257.setTop (mkF m 116 #[.val (.int p1), .val (.int p2), .val (.int p3), .val (.int p4), .val (.int p5), .val (.int (1 : Int32)), .val (.int ea), .val (.int eb), .val (.int ec), .val (.int p1), .val (.ref al), .unset, .unset] [(.int (3 : Int32)), (.int (1 : Int32))]))
          refine own_st (fun t k => XS.icmpYes X257.here hx rfl (pc0 := 116) (pc' := 130) rfl (hb hby at_116) rfl (flt (by decide)).2.2.2 (by decide) (by decide) k) ?_
          show own_G _ _ _ _ _ _ _ (T257.setTop (mkF m 130 #[.val (.int p1), .val (.int p2), .val (.int p3), .val (.int p4), .val (.int p5), .val (.int (1 : Int32)), .val (.int ea), .val (.int eb), .val (.int ec), .val (.int p1), .val (.ref al), .unset, .unset] []))
          refine own_st (fun t k => XS.iload X257.here hx rfl (hb hby at_130) rfl k) ?_
          show own_G _ _ _ _ _ _ _ (T257.setTop (mkF m 132 #[.val (.int p1), .val (.int p2), .val (.int p3), .val (.int p4), .val (.int p5), .val (.int (1 : Int32)), .val (.int ea), .val (.int eb), .val (.int ec), .val (.int p1), .val (.ref al), .unset, .unset] [(.int (1 : Int32))]))
          refine own_st (fun t k => XS.iconst X257.here hx rfl (hb hby at_132) k) ?_
          show own_G _ _ _ _ _ _ _ (T257.setTop (mkF m 133 #[.val (.int p1), .val (.int p2), .val (.int p3), .val (.int p4), .val (.int p5), .val (.int (1 : Int32)), .val (.int ea), .val (.int eb), .val (.int ec), .val (.int p1), .val (.ref al), .unset, .unset] [(.int (2 : Int32)), (.int (1 : Int32))]))
          refine own_st (fun t k => XS.icmpYes X257.here hx rfl (pc0 := 133) (pc' := 152) rfl (hb hby at_133) rfl (feq (by decide)).2 (by decide) (by decide) k) ?_
          show own_G _ _ _ _ _ _ _ (T257.setTop (mkF m 152 #[.val (.int p1), .val (.int p2), .val (.int p3), .val (.int p4), .val (.int p5), .val (.int (1 : Int32)), .val (.int ea), .val (.int eb), .val (.int ec), .val (.int p1), .val (.ref al), .unset, .unset] []))
          refine own_st (fun t k => XS.iconst X257.here hx rfl (hb hby at_152) k) ?_
          show own_G _ _ _ _ _ _ _ (T257.setTop (mkF m 153 #[.val (.int p1), .val (.int p2), .val (.int p3), .val (.int p4), .val (.int p5), .val (.int (1 : Int32)), .val (.int ea), .val (.int eb), .val (.int ec), .val (.int p1), .val (.ref al), .unset, .unset] [(.int (0 : Int32))]))
          refine own_st (fun t k => XS.istore X257.here hx rfl (hb hby at_153) rfl (l' := #[.val (.int p1), .val (.int p2), .val (.int p3), .val (.int p4), .val (.int p5), .val (.int (1 : Int32)), .val (.int ea), .val (.int eb), .val (.int ec), .val (.int p1), .val (.ref al), .val (.int (0 : Int32)), .unset]) rfl k) ?_
          show own_G _ _ _ _ _ _ _ (T257.setTop (mkF m 155 #[.val (.int p1), .val (.int p2), .val (.int p3), .val (.int p4), .val (.int p5), .val (.int (1 : Int32)), .val (.int ea), .val (.int eb), .val (.int ec), .val (.int p1), .val (.ref al), .val (.int (0 : Int32)), .unset] []))
          obtain ⟨T263, h263, X263, e263, E263, A263, D263, -, st263⟩ := newO X257 hx hZ hown (hw _ (List.mem_of_getElem? (i := 26) rfl)) (hw _ (List.mem_of_getElem? (i := 27) rfl)) (hw _ (List.mem_of_getElem? (i := 28) rfl)) rfl (g := (mkF m 155 #[.val (.int p1), .val (.int p2), .val (.int p3), .val (.int p4), .val (.int p5), .val (.int (1 : Int32)), .val (.int ea), .val (.int eb), .val (.int ec), .val (.int p1), .val (.ref al), .val (.int (0 : Int32)), .unset] [])) rfl (hb hby at_155) (by decide) (by decide)
          obtain ⟨ch, g263⟩ : ∃ z, z = T257.heap.size := ⟨_, rfl⟩
          rw [← g263] at A263 D263 st263
          refine own_st (fun t k => st263 t k) ?_
          show own_G _ _ _ _ _ _ _ (T263.setTop (mkF m 158 #[.val (.int p1), .val (.int p2), .val (.int p3), .val (.int p4), .val (.int p5), .val (.int (1 : Int32)), .val (.int ea), .val (.int eb), .val (.int ec), .val (.int p1), .val (.ref al), .val (.int (0 : Int32)), .unset] [(.ref ch)]))
          have ge_ch : n0 ≤ ch := Nat.le_trans Zz262 (Nat.le_of_eq g263.symm)
          have ne_al_ch : al ≠ ch := Nat.ne_of_lt (Nat.lt_of_lt_of_le Ea257.lt (Nat.le_of_eq g263.symm))
          have ne_x_0_ch : x_0 ≠ ch := Nat.ne_of_lt (Nat.lt_of_lt_of_le X0_260.lt (Nat.le_of_eq g263.symm))
          have ne_d1_ch : d1 ≠ ch := Nat.ne_of_lt (Nat.lt_of_lt_of_le Vd257.lt (Nat.le_of_eq g263.symm))
          have O_264 := O_258.ext E263
          have E_265 := Ea257.ext E263
          have X0_266 := X0_260.ext E263
          have XV0_267 := XV0_261.ext E263
          have fm_268 := Fa257.ext E263
          have fs_269 := Fb257.ext E263
          have fe_270 := Fc257.ext E263
          have V_271 := Vd257.ext E263
          have Zz272 : n0 ≤ h263.size := Nat.le_trans Zz262 E263.1
          have R1 : Fld Z h263 ch "com/example/strigine/strigine/Roles$Chain" "roles" "Ljava/util/List;" .null := D263 (Or.inr (hw _ (List.mem_of_getElem? (i := 39) rfl))) (ty := .object "java/util/List") (by decide)
          have R2 : Fld Z h263 ch "com/example/strigine/strigine/Roles$Chain" "sup" "I" (.int 0) := D263 (Or.inr (hw _ (List.mem_of_getElem? (i := 41) rfl))) (ty := .int) (by decide)
          refine own_st (fun t k => XS.dup X263.here hx rfl (hb hby at_158) rfl rfl k) ?_
          show own_G _ _ _ _ _ _ _ (T263.setTop (mkF m 159 #[.val (.int p1), .val (.int p2), .val (.int p3), .val (.int p4), .val (.int p5), .val (.int (1 : Int32)), .val (.int ea), .val (.int eb), .val (.int ec), .val (.int p1), .val (.ref al), .val (.int (0 : Int32)), .unset] [(.ref ch), (.ref ch)]))
          refine own_st (fun t k => XS.aload X263.here hx rfl (hb hby at_159) rfl rfl k) ?_
          show own_G _ _ _ _ _ _ _ (T263.setTop (mkF m 161 #[.val (.int p1), .val (.int p2), .val (.int p3), .val (.int p4), .val (.int p5), .val (.int (1 : Int32)), .val (.int ea), .val (.int eb), .val (.int ec), .val (.int p1), .val (.ref al), .val (.int (0 : Int32)), .unset] [(.ref al), (.ref ch), (.ref ch)]))
          refine own_st (fun t k => XS.iloadN X263.here hx rfl (hb hby at_161) rfl k) ?_
          show own_G _ _ _ _ _ _ _ (T263.setTop (mkF m 162 #[.val (.int p1), .val (.int p2), .val (.int p3), .val (.int p4), .val (.int p5), .val (.int (1 : Int32)), .val (.int ea), .val (.int eb), .val (.int ec), .val (.int p1), .val (.ref al), .val (.int (0 : Int32)), .unset] [(.int p1), (.ref al), (.ref ch), (.ref ch)]))
          obtain ⟨_, _, ⟨T273, L273, k273, n273⟩, -, X273, ⟨Lc273, hQ273, l273, y273, z273⟩, st273⟩ := X263.specialBack hx (y := (⟨"com/example/strigine/strigine/Roles$Chain", "<init>", "(Ljava/util/List;I)V"⟩ : MethodName)) rfl hown (mvT hZ (hw _ (List.mem_of_getElem? (i := 29) rfl))) (mvT hZ (hw _ (List.mem_of_getElem? (i := 30) rfl))) (mvT hZ (hw _ (List.mem_of_getElem? (i := 31) rfl))) (by decide) (backOf (W := 1) (own_rm40 l Z a0 hw [] ch al p1 h263 n0 Zz272 A263 R1 R2 ge_ch) hZ (hw _ (List.mem_of_getElem? (i := 31) rfl)) (hw _ (List.mem_of_getElem? (i := 28) rfl)) (by decide) (by decide)) (g := (mkF m 162 #[.val (.int p1), .val (.int p2), .val (.int p3), .val (.int p4), .val (.int p5), .val (.int (1 : Int32)), .val (.int ea), .val (.int eb), .val (.int ec), .val (.int p1), .val (.ref al), .val (.int (0 : Int32)), .unset] [(.int p1), (.ref al), (.ref ch), (.ref ch)])) rfl (by rw [hml]; rfl) (Steps.refl _) (a := ch) (argsL := [(.ref al), (.int p1)]) (rest := [(.ref ch)]) (lenOf own_pd2 rfl) rfl (by show 2 * 0 + _ ≤ _; exact Nat.le_of_eq rfl) (hb hby at_162) (fun _ _ => ⟨rfl, e263, (by decide : 4 + 0 ≤ _), (by decide : 16 + 0 ≤ _)⟩)
          dsimp only [Pt.U, Pt.locs, Pt.cells, Pt.slots] at X273 l273 y273 z273 st273 hQ273
          subst l273 y273 z273
          obtain ⟨rfl, N273q, K273, Ec273, Fr273, Fu273⟩ := hQ273
          have N273 := Fr.app N257 N273q
          refine own_st (fun t k => st273.trans k) ?_
          show own_G _ _ _ _ _ _ _ (T273.setTop (mkF m 165 #[.val (.int p1), .val (.int p2), .val (.int p3), .val (.int p4), .val (.int p5), .val (.int (1 : Int32)), .val (.int ea), .val (.int eb), .val (.int ec), .val (.int p1), .val (.ref al), .val (.int (0 : Int32)), .unset] [(.ref ch)]))
          have O_274 := O_264.keep K273 (allS ge_ch all0)
          have E_275 := E_265.keep K273
          have X0_276 := X0_266.keep K273
          have XV0_277 := XV0_267.keep K273 (ninS ne_x_0_ch nin0)
          have fm_278 := fm_268.keep K273 (ninS ne_al_ch nin0)
          have fs_279 := fs_269.keep K273 (ninS ne_al_ch nin0)
          have fe_280 := fe_270.keep K273 (ninS ne_al_ch nin0)
          have V_281 := V_271.keep K273 (ninS ne_d1_ch nin0)
          have Zz282 : n0 ≤ _ := Nat.le_trans Zz272 K273.1
          obtain ⟨cq283, kq283, q283a, q283b, q283c⟩ := isOf hZ rfl Ec273
          obtain ⟨_, _, ⟨T283, L283, k283, n283⟩, -, X283, ⟨Lc283, hQ283, l283, y283, z283⟩, st283⟩ := X273.virtualBack hx (y := (⟨"com/example/strigine/strigine/Roles$Chain", "isTransitivity", "()Z"⟩ : MethodName)) (z := (⟨"com/example/strigine/strigine/Roles$Chain", "isTransitivity", "()Z"⟩ : MethodName)) hown (mvT hZ (hw _ (List.mem_of_getElem? (i := 42) rfl))) (mvT hZ (hw _ (List.mem_of_getElem? (i := 43) rfl))) (notFace_of_selects (args := #[]) (mvT hZ (hw _ (List.mem_of_getElem? (i := 45) rfl)))) (mvT hZ (hw _ (List.mem_of_getElem? (i := 45) rfl))) (mvT hZ (hw _ (List.mem_of_getElem? (i := 44) rfl))) (by decide) (backOf (W := 0) (own_rm41 l Z a0 hw [] ch al p1 (1 : Int32) T273.heap n0 Zz282 Fr273 Fu273 E_275 fs_279 (by decide)) hZ (hw _ (List.mem_of_getElem? (i := 46) rfl)) (hw _ (List.mem_of_getElem? (i := 28) rfl)) (by decide) (by decide)) q283a q283c (g := (mkF m 165 #[.val (.int p1), .val (.int p2), .val (.int p3), .val (.int p4), .val (.int p5), .val (.int (1 : Int32)), .val (.int ea), .val (.int eb), .val (.int ec), .val (.int p1), .val (.ref al), .val (.int (0 : Int32)), .unset] [(.ref ch)])) rfl (by rw [hml]; rfl) (Steps.refl _) (argsL := []) (rest := []) (lenOf own_pd3 rfl) rfl (by show 2 * 0 + _ ≤ _; exact Nat.le_of_eq rfl) (hb hby at_165) (fun _ _ => ⟨rfl, rfl, (by decide : 4 + 0 ≤ _), (by decide : 16 + 0 ≤ _)⟩)
          dsimp only [Pt.U, Pt.locs, Pt.cells, Pt.slots] at X283 l283 y283 z283 st283 hQ283
          subst l283 y283 z283
          obtain ⟨rfl, N283q, e283⟩ := hQ283
          have N283 := Fr.app N273 N283q
          refine own_st (fun t k => st283.trans k) ?_
          show own_G _ _ _ _ _ _ _ (T283.setTop (mkF m 168 #[.val (.int p1), .val (.int p2), .val (.int p3), .val (.int p4), .val (.int p5), .val (.int (1 : Int32)), .val (.int ea), .val (.int eb), .val (.int ec), .val (.int p1), .val (.ref al), .val (.int (0 : Int32)), .unset] [(.int (0 : Int32))]))
          refine own_st (fun t k => XS.istore X283.here hx rfl (hb hby at_168) rfl (l' := #[.val (.int p1), .val (.int p2), .val (.int p3), .val (.int p4), .val (.int p5), .val (.int (1 : Int32)), .val (.int ea), .val (.int eb), .val (.int ec), .val (.int p1), .val (.ref al), .val (.int (0 : Int32)), .val (.int (0 : Int32))]) rfl k) ?_
          show own_G _ _ _ _ _ _ _ (T283.setTop (mkF m 170 #[.val (.int p1), .val (.int p2), .val (.int p3), .val (.int p4), .val (.int p5), .val (.int (1 : Int32)), .val (.int ea), .val (.int eb), .val (.int ec), .val (.int p1), .val (.ref al), .val (.int (0 : Int32)), .val (.int (0 : Int32))] []))
          refine own_st (fun t k => XS.iload X283.here hx rfl (hb hby at_170) rfl k) ?_
          show own_G _ _ _ _ _ _ _ (T283.setTop (mkF m 172 #[.val (.int p1), .val (.int p2), .val (.int p3), .val (.int p4), .val (.int p5), .val (.int (1 : Int32)), .val (.int ea), .val (.int eb), .val (.int ec), .val (.int p1), .val (.ref al), .val (.int (0 : Int32)), .val (.int (0 : Int32))] [(.int (0 : Int32))]))
          refine own_st (fun t k => XS.iload X283.here hx rfl (hb hby at_172) rfl k) ?_
          show own_G _ _ _ _ _ _ _ (T283.setTop (mkF m 174 #[.val (.int p1), .val (.int p2), .val (.int p3), .val (.int p4), .val (.int p5), .val (.int (1 : Int32)), .val (.int ea), .val (.int eb), .val (.int ec), .val (.int p1), .val (.ref al), .val (.int (0 : Int32)), .val (.int (0 : Int32))] [(.int (0 : Int32)), (.int (0 : Int32))]))
          refine own_st (fun t k => XS.icmpNo X283.here hx rfl (hb hby at_174) rfl (teq rfl).2 k) ?_
          show own_G _ _ _ _ _ _ _ (T283.setTop (mkF m 177 #[.val (.int p1), .val (.int p2), .val (.int p3), .val (.int p4), .val (.int p5), .val (.int (1 : Int32)), .val (.int ea), .val (.int eb), .val (.int ec), .val (.int p1), .val (.ref al), .val (.int (0 : Int32)), .val (.int (0 : Int32))] []))
          refine own_st (fun t k => XS.iconst X283.here hx rfl (hb hby at_177) k) ?_
          show own_G _ _ _ _ _ _ _ (T283.setTop (mkF m 178 #[.val (.int p1), .val (.int p2), .val (.int p3), .val (.int p4), .val (.int p5), .val (.int (1 : Int32)), .val (.int ea), .val (.int eb), .val (.int ec), .val (.int p1), .val (.ref al), .val (.int (0 : Int32)), .val (.int (0 : Int32))] [(.int (1 : Int32))]))
          refine own_st (fun t k => XS.goto X283.here hx rfl (pc0 := 178) (pc' := 182) rfl (hb hby at_178) (by decide) (by decide) k) ?_
          show own_G _ _ _ _ _ _ _ (T283.setTop (mkF m 182 #[.val (.int p1), .val (.int p2), .val (.int p3), .val (.int p4), .val (.int p5), .val (.int (1 : Int32)), .val (.int ea), .val (.int eb), .val (.int ec), .val (.int p1), .val (.ref al), .val (.int (0 : Int32)), .val (.int (0 : Int32))] [(.int (1 : Int32))]))
          exact own_retN (t := .boolean) (by simp) X283 hx Bd.returns (BodyLoose.notSynchronized Bd) (hb hby at_182) (by decide) (by decide) ⟨rfl, N283⟩
        · show own_G _ _ _ _ _ _ _ (T232.setTop (mkF m 65 #[.val (.int p1), .val (.int p2), .val (.int p3), .val (.int p4), .val (.int p5), .val (.int (2 : Int32)), .val (.int ea), .val (.int eb), .val (.int ec), .val (.int p1), .val (.ref al), .unset, .unset] [(.int (2 : Int32))]))
          refine own_st (fun t k => XS.ifNo X232.here hx rfl (hb hby at_65) rfl ((if0 _ _).trans (tlt (by decide)).2.2.2) k) ?_
          show own_G _ _ _ _ _ _ _ (T232.setTop (mkF m 68 #[.val (.int p1), .val (.int p2), .val (.int p3), .val (.int p4), .val (.int p5), .val (.int (2 : Int32)), .val (.int ea), .val (.int eb), .val (.int ec), .val (.int p1), .val (.ref al), .unset, .unset] []))
          refine own_st (fun t k => XS.aload X232.here hx rfl (hb hby at_68) rfl rfl k) ?_
          show own_G _ _ _ _ _ _ _ (T232.setTop (mkF m 70 #[.val (.int p1), .val (.int p2), .val (.int p3), .val (.int p4), .val (.int p5), .val (.int (2 : Int32)), .val (.int ea), .val (.int eb), .val (.int ec), .val (.int p1), .val (.ref al), .unset, .unset] [(.ref al)]))
          refine own_st (fun t k => XS.iload X232.here hx rfl (hb hby at_70) rfl k) ?_
          show own_G _ _ _ _ _ _ _ (T232.setTop (mkF m 72 #[.val (.int p1), .val (.int p2), .val (.int p3), .val (.int p4), .val (.int p5), .val (.int (2 : Int32)), .val (.int ea), .val (.int eb), .val (.int ec), .val (.int p1), .val (.ref al), .unset, .unset] [(.int ea), (.ref al)]))
          obtain ⟨_, _, ⟨T284, L284, k284, n284⟩, -, X284, ⟨Lc284, hQ284, l284, y284, z284⟩, st284⟩ := Jvm.LawKit.callS X232 hx (y := (⟨"java/lang/Integer", "valueOf", "(I)Ljava/lang/Integer;"⟩ : MethodName)) hown (mvT hZ (hw _ (List.mem_of_getElem? (i := 58) rfl))) (mvT hZ (hw _ (List.mem_of_getElem? (i := 59) rfl))) (mvT hZ (hw _ (List.mem_of_getElem? (i := 60) rfl))) (mvT hZ (hw _ (List.mem_of_getElem? (i := 61) rfl))) (by decide) (backOf (W := 1) (own_rm7 l Z a0 hw [] ea ca cc T232.heap n0 Zz234 O_233 Sh Sc Bx) hZ (hw _ (List.mem_of_getElem? (i := 61) rfl)) (hw _ (List.mem_of_getElem? (i := 60) rfl)) (by decide) (by decide)) (g := (mkF m 72 #[.val (.int p1), .val (.int p2), .val (.int p3), .val (.int p4), .val (.int p5), .val (.int (2 : Int32)), .val (.int ea), .val (.int eb), .val (.int ec), .val (.int p1), .val (.ref al), .unset, .unset] [(.int ea), (.ref al)])) rfl (by rw [hml]; rfl) (argsL := [(.int ea)]) (rest := [(.ref al)]) (lenOf own_pd5 rfl) rfl (by show 2 * 0 + _ ≤ _; exact Nat.le_of_eq rfl) (hb hby at_72) (fun _ _ => ⟨rfl, rfl, (by decide : 1 + 1 ≤ _), (by decide : 3 + 1 ≤ _)⟩)
          dsimp only [Pt.U, Pt.locs, Pt.cells, Pt.slots] at X284 l284 y284 z284 st284 hQ284
          subst l284 y284 z284
          obtain ⟨x_0, rfl, N284q, K284, Eb284, Vb284⟩ := hQ284
          have N284 := Fr.app N232 N284q
          refine own_st (fun t k => st284 t k) ?_
          show own_G _ _ _ _ _ _ _ (T284.setTop (mkF m 75 #[.val (.int p1), .val (.int p2), .val (.int p3), .val (.int p4), .val (.int p5), .val (.int (2 : Int32)), .val (.int ea), .val (.int eb), .val (.int ec), .val (.int p1), .val (.ref al), .unset, .unset] [(.ref x_0), (.ref al)]))
          have O_285 := O_233.keep K284 all0
          have E_286 := Ea232.keep K284
          have fm_287 := Fa232.keep K284 nin0
          have fs_288 := Fb232.keep K284 nin0
          have fe_289 := Fc232.keep K284 nin0
          have Zz290 : n0 ≤ _ := Nat.le_trans Zz234 K284.1
          have ne_x_0_al : x_0 ≠ al := ne_exa Eb284 E_286 (by decide)
          obtain ⟨cq291, kq291, q291a, q291b, q291c⟩ := isOf hZ rfl E_286
          obtain ⟨_, _, ⟨T291, L291, k291, n291⟩, -, X291, ⟨Lc291, hQ291, l291, y291, z291⟩, st291⟩ := X284.virtualBack hx (y := (⟨"java/util/ArrayList", "add", "(Ljava/lang/Object;)Z"⟩ : MethodName)) (z := (⟨"java/util/ArrayList", "add", "(Ljava/lang/Object;)Z"⟩ : MethodName)) hown (mvT hZ (hw _ (List.mem_of_getElem? (i := 65) rfl))) (mvT hZ (hw _ (List.mem_of_getElem? (i := 66) rfl))) (notFace_of_selects (args := #[]) (mvT hZ (hw _ (List.mem_of_getElem? (i := 68) rfl)))) (mvT hZ (hw _ (List.mem_of_getElem? (i := 68) rfl))) (mvT hZ (hw _ (List.mem_of_getElem? (i := 67) rfl))) (by decide) (backOf (W := 0) (own_rm18 l Z a0 hw [] al x_0 (0 : Int32) df kf T284.heap n0 Zz290 E_286 fm_287 fs_288 fe_289 ge_al (Sd.ext O_285.2) (Vf.ext O_285.2) Eb284 nf) hZ (hw _ (List.mem_of_getElem? (i := 69) rfl)) (hw _ (List.mem_of_getElem? (i := 2) rfl)) (by decide) (by decide)) q291a q291c (g := (mkF m 75 #[.val (.int p1), .val (.int p2), .val (.int p3), .val (.int p4), .val (.int p5), .val (.int (2 : Int32)), .val (.int ea), .val (.int eb), .val (.int ec), .val (.int p1), .val (.ref al), .unset, .unset] [(.ref x_0), (.ref al)])) rfl (by rw [hml]; rfl) (Steps.refl _) (argsL := [(.ref x_0)]) (rest := []) (lenOf own_pd6 rfl) rfl (by show 2 * 0 + _ ≤ _; exact Nat.le_of_eq rfl) (hb hby at_75) (fun _ _ => ⟨rfl, rfl, (by decide : 2 + 1 ≤ _), (by decide : 4 + 10 ≤ _)⟩)
          dsimp only [Pt.U, Pt.locs, Pt.cells, Pt.slots] at X291 l291 y291 z291 st291 hQ291
          subst l291 y291 z291
          obtain ⟨d1, k1, rfl, N291q, K291, Ea291, Fa291, Fb291, Fc291, Vd291, Ov291, s1291, s2291⟩ := hQ291
          have N291 := Fr.app N284 N291q
          refine own_st (fun t k => st291.trans k) ?_
          show own_G _ _ _ _ _ _ _ (T291.setTop (mkF m 78 #[.val (.int p1), .val (.int p2), .val (.int p3), .val (.int p4), .val (.int p5), .val (.int (2 : Int32)), .val (.int ea), .val (.int eb), .val (.int ec), .val (.int p1), .val (.ref al), .unset, .unset] [(.int (1 : Int32))]))
          have ne_al_d1 : al ≠ d1 := Nat.ne_of_lt (Nat.lt_of_lt_of_le E_286.lt s1291)
          have ne_x_0_d1 : x_0 ≠ d1 := Nat.ne_of_lt (Nat.lt_of_lt_of_le Eb284.lt s1291)
          have O_292 := O_285.keep K291 (allS ge_al all0)
          have E_293 := E_286.keep K291
          have X0_294 := Eb284.keep K291
          have XV0_295 := Vb284.keep K291 (ninS ne_x_0_al nin0)
          have Zz296 : n0 ≤ _ := Nat.le_trans Zz290 K291.1
          refine own_st (fun t k => XS.pop X291.here hx rfl (hb hby at_78) rfl rfl k) ?_
          show own_G _ _ _ _ _ _ _ (T291.setTop (mkF m 79 #[.val (.int p1), .val (.int p2), .val (.int p3), .val (.int p4), .val (.int p5), .val (.int (2 : Int32)), .val (.int ea), .val (.int eb), .val (.int ec), .val (.int p1), .val (.ref al), .unset, .unset] []))
          refine own_st (fun t k => XS.iload X291.here hx rfl (hb hby at_79) rfl k) ?_
          show own_G _ _ _ _ _ _ _ (T291.setTop (mkF m 81 #[.val (.int p1), .val (.int p2), .val (.int p3), .val (.int p4), .val (.int p5), .val (.int (2 : Int32)), .val (.int ea), .val (.int eb), .val (.int ec), .val (.int p1), .val (.ref al), .unset, .unset] [(.int (2 : Int32))]))
          refine own_st (fun t k => XS.iconst X291.here hx rfl (hb hby at_81) k) ?_
          show own_G _ _ _ _ _ _ _ (T291.setTop (mkF m 82 #[.val (.int p1), .val (.int p2), .val (.int p3), .val (.int p4), .val (.int p5), .val (.int (2 : Int32)), .val (.int ea), .val (.int eb), .val (.int ec), .val (.int p1), .val (.ref al), .unset, .unset] [(.int (1 : Int32)), (.int (2 : Int32))]))
          refine own_st (fun t k => XS.icmpNo X291.here hx rfl (hb hby at_82) rfl (tlt (by decide)).2.2.2 k) ?_
          show own_G _ _ _ _ _ _ _ (T291.setTop (mkF m 85 #[.val (.int p1), .val (.int p2), .val (.int p3), .val (.int p4), .val (.int p5), .val (.int (2 : Int32)), .val (.int ea), .val (.int eb), .val (.int ec), .val (.int p1), .val (.ref al), .unset, .unset] []))
          refine own_st (fun t k => XS.aload X291.here hx rfl (hb hby at_85) rfl rfl k) ?_
          show own_G _ _ _ _ _ _ _ (T291.setTop (mkF m 87 #[.val (.int p1), .val (.int p2), .val (.int p3), .val (.int p4), .val (.int p5), .val (.int (2 : Int32)), .val (.int ea), .val (.int eb), .val (.int ec), .val (.int p1), .val (.ref al), .unset, .unset] [(.ref al)]))
          refine own_st (fun t k => XS.iload X291.here hx rfl (hb hby at_87) rfl k) ?_
          show own_G _ _ _ _ _ _ _ (T291.setTop (mkF m 89 #[.val (.int p1), .val (.int p2), .val (.int p3), .val (.int p4), .val (.int p5), .val (.int (2 : Int32)), .val (.int ea), .val (.int eb), .val (.int ec), .val (.int p1), .val (.ref al), .unset, .unset] [(.int eb), (.ref al)]))
          obtain ⟨_, _, ⟨T297, L297, k297, n297⟩, -, X297, ⟨Lc297, hQ297, l297, y297, z297⟩, st297⟩ := Jvm.LawKit.callS X291 hx (y := (⟨"java/lang/Integer", "valueOf", "(I)Ljava/lang/Integer;"⟩ : MethodName)) hown (mvT hZ (hw _ (List.mem_of_getElem? (i := 58) rfl))) (mvT hZ (hw _ (List.mem_of_getElem? (i := 59) rfl))) (mvT hZ (hw _ (List.mem_of_getElem? (i := 60) rfl))) (mvT hZ (hw _ (List.mem_of_getElem? (i := 61) rfl))) (by decide) (backOf (W := 1) (own_rm7 l Z a0 hw [] eb ca cc T291.heap n0 Zz296 O_292 Sh Sc Bx) hZ (hw _ (List.mem_of_getElem? (i := 61) rfl)) (hw _ (List.mem_of_getElem? (i := 60) rfl)) (by decide) (by decide)) (g := (mkF m 89 #[.val (.int p1), .val (.int p2), .val (.int p3), .val (.int p4), .val (.int p5), .val (.int (2 : Int32)), .val (.int ea), .val (.int eb), .val (.int ec), .val (.int p1), .val (.ref al), .unset, .unset] [(.int eb), (.ref al)])) rfl (by rw [hml]; rfl) (argsL := [(.int eb)]) (rest := [(.ref al)]) (lenOf own_pd5 rfl) rfl (by show 2 * 0 + _ ≤ _; exact Nat.le_of_eq rfl) (hb hby at_89) (fun _ _ => ⟨rfl, rfl, (by decide : 3 + 1 ≤ _), (by decide : 14 + 1 ≤ _)⟩)
          dsimp only [Pt.U, Pt.locs, Pt.cells, Pt.slots] at X297 l297 y297 z297 st297 hQ297
          subst l297 y297 z297
          obtain ⟨x_1, rfl, N297q, K297, Eb297, Vb297⟩ := hQ297
          have N297 := Fr.app N291 N297q
          refine own_st (fun t k => st297 t k) ?_
          show own_G _ _ _ _ _ _ _ (T297.setTop (mkF m 92 #[.val (.int p1), .val (.int p2), .val (.int p3), .val (.int p4), .val (.int p5), .val (.int (2 : Int32)), .val (.int ea), .val (.int eb), .val (.int ec), .val (.int p1), .val (.ref al), .unset, .unset] [(.ref x_1), (.ref al)]))
          have O_298 := O_292.keep K297 all0
          have E_299 := Ea291.keep K297
          have X0_300 := X0_294.keep K297
          have XV0_301 := XV0_295.keep K297 nin0
          have fm_302 := Fa291.keep K297 nin0
          have fs_303 := Fb291.keep K297 nin0
          have fe_304 := Fc291.keep K297 nin0
          have V_305 := Vd291.keep K297 nin0
          have Zz306 : n0 ≤ _ := Nat.le_trans Zz296 K297.1
          have ne_x_1_al : x_1 ≠ al := ne_exa Eb297 E_299 (by decide)
          have ne_x_1_d1 : x_1 ≠ d1 := own_nea Eb297 (hw _ (List.mem_of_getElem? (i := 95) rfl)) V_305
          obtain ⟨cq307, kq307, q307a, q307b, q307c⟩ := isOf hZ rfl E_299
          obtain ⟨_, _, ⟨T307, L307, k307, n307⟩, -, X307, ⟨Lc307, hQ307, l307, y307, z307⟩, st307⟩ := X297.virtualBack hx (y := (⟨"java/util/ArrayList", "add", "(Ljava/lang/Object;)Z"⟩ : MethodName)) (z := (⟨"java/util/ArrayList", "add", "(Ljava/lang/Object;)Z"⟩ : MethodName)) hown (mvT hZ (hw _ (List.mem_of_getElem? (i := 65) rfl))) (mvT hZ (hw _ (List.mem_of_getElem? (i := 66) rfl))) (notFace_of_selects (args := #[]) (mvT hZ (hw _ (List.mem_of_getElem? (i := 68) rfl)))) (mvT hZ (hw _ (List.mem_of_getElem? (i := 68) rfl))) (mvT hZ (hw _ (List.mem_of_getElem? (i := 67) rfl))) (by decide) (backOf (W := 0) (own_rm31 l Z a0 hw [] al x_0 x_1 ((0 : Int32) + 1) d1 k1 T297.heap n0 Zz306 E_299 fm_302 fs_303 fe_304 ge_al V_305 Ov291 s2291 ne_al_d1 Eb297) hZ (hw _ (List.mem_of_getElem? (i := 69) rfl)) (hw _ (List.mem_of_getElem? (i := 2) rfl)) (by decide) (by decide)) q307a q307c (g := (mkF m 92 #[.val (.int p1), .val (.int p2), .val (.int p3), .val (.int p4), .val (.int p5), .val (.int (2 : Int32)), .val (.int ea), .val (.int eb), .val (.int ec), .val (.int p1), .val (.ref al), .unset, .unset] [(.ref x_1), (.ref al)])) rfl (by rw [hml]; rfl) (Steps.refl _) (argsL := [(.ref x_1)]) (rest := []) (lenOf own_pd6 rfl) rfl (by show 2 * 0 + _ ≤ _; exact Nat.le_of_eq rfl) (hb hby at_92) (fun _ _ => ⟨rfl, rfl, (by decide : 4 + 0 ≤ _), (by decide : 15 + 0 ≤ _)⟩)
          dsimp only [Pt.U, Pt.locs, Pt.cells, Pt.slots] at X307 l307 y307 z307 st307 hQ307
          subst l307 y307 z307
          obtain ⟨rfl, N307q, K307, Ea307, Fa307, Fb307, Fc307, Vd307⟩ := hQ307
          have N307 := Fr.app N297 N307q
          refine own_st (fun t k => st307.trans k) ?_
          show own_G _ _ _ _ _ _ _ (T307.setTop (mkF m 95 #[.val (.int p1), .val (.int p2), .val (.int p3), .val (.int p4), .val (.int p5), .val (.int (2 : Int32)), .val (.int ea), .val (.int eb), .val (.int ec), .val (.int p1), .val (.ref al), .unset, .unset] [(.int (1 : Int32))]))
          have O_308 := O_298.keep K307 (allS ge_al (allS s2291 all0))
          have E_309 := E_299.keep K307
          have X0_310 := X0_300.keep K307
          have XV0_311 := XV0_301.keep K307 (ninS ne_x_0_al (ninS ne_x_0_d1 nin0))
          have X1_312 := Eb297.keep K307
          have XV1_313 := Vb297.keep K307 (ninS ne_x_1_al (ninS ne_x_1_d1 nin0))
          have Zz314 : n0 ≤ _ := Nat.le_trans Zz306 K307.1
          refine own_st (fun t k => XS.pop X307.here hx rfl (hb hby at_95) rfl rfl k) ?_
          show own_G _ _ _ _ _ _ _ (T307.setTop (mkF m 96 #[.val (.int p1), .val (.int p2), .val (.int p3), .val (.int p4), .val (.int p5), .val (.int (2 : Int32)), .val (.int ea), .val (.int eb), .val (.int ec), .val (.int p1), .val (.ref al), .unset, .unset] []))
          refine own_st (fun t k => XS.iload X307.here hx rfl (hb hby at_96) rfl k) ?_
          show own_G _ _ _ _ _ _ _ (T307.setTop (mkF m 98 #[.val (.int p1), .val (.int p2), .val (.int p3), .val (.int p4), .val (.int p5), .val (.int (2 : Int32)), .val (.int ea), .val (.int eb), .val (.int ec), .val (.int p1), .val (.ref al), .unset, .unset] [(.int (2 : Int32))]))
          refine own_st (fun t k => XS.iconst X307.here hx rfl (hb hby at_98) k) ?_
          show own_G _ _ _ _ _ _ _ (T307.setTop (mkF m 99 #[.val (.int p1), .val (.int p2), .val (.int p3), .val (.int p4), .val (.int p5), .val (.int (2 : Int32)), .val (.int ea), .val (.int eb), .val (.int ec), .val (.int p1), .val (.ref al), .unset, .unset] [(.int (2 : Int32)), (.int (2 : Int32))]))
          refine own_st (fun t k => XS.icmpYes X307.here hx rfl (pc0 := 99) (pc' := 113) rfl (hb hby at_99) rfl (flt (by decide)).2.2.2 (by decide) (by decide) k) ?_
          show own_G _ _ _ _ _ _ _ (T307.setTop (mkF m 113 #[.val (.int p1), .val (.int p2), .val (.int p3), .val (.int p4), .val (.int p5), .val (.int (2 : Int32)), .val (.int ea), .val (.int eb), .val (.int ec), .val (.int p1), .val (.ref al), .unset, .unset] []))
          refine own_st (fun t k => XS.iload X307.here hx rfl (hb hby at_113) rfl k) ?_
          show own_G _ _ _ _ _ _ _ (T307.setTop (mkF m 115 #[.val (.int p1), .val (.int p2), .val (.int p3), .val (.int p4), .val (.int p5), .val (.int (2 : Int32)), .val (.int ea), .val (.int eb), .val (.int ec), .val (.int p1), .val (.ref al), .unset, .unset] [(.int (2 : Int32))]))
          refine own_st (fun t k => XS.iconst X307.here hx rfl (hb hby at_115) k) ?_
          show own_G _ _ _ _ _ _ _ (T307.setTop (mkF m 116 #[.val (.int p1), .val (.int p2), .val (.int p3), .val (.int p4), .val (.int p5), .val (.int (2 : Int32)), .val (.int ea), .val (.int eb), .val (.int ec), .val (.int p1), .val (.ref al), .unset, .unset] [(.int (3 : Int32)), (.int (2 : Int32))]))
          refine own_st (fun t k => XS.icmpYes X307.here hx rfl (pc0 := 116) (pc' := 130) rfl (hb hby at_116) rfl (flt (by decide)).2.2.2 (by decide) (by decide) k) ?_
          show own_G _ _ _ _ _ _ _ (T307.setTop (mkF m 130 #[.val (.int p1), .val (.int p2), .val (.int p3), .val (.int p4), .val (.int p5), .val (.int (2 : Int32)), .val (.int ea), .val (.int eb), .val (.int ec), .val (.int p1), .val (.ref al), .unset, .unset] []))
          refine own_st (fun t k => XS.iload X307.here hx rfl (hb hby at_130) rfl k) ?_
          show own_G _ _ _ _ _ _ _ (T307.setTop (mkF m 132 #[.val (.int p1), .val (.int p2), .val (.int p3), .val (.int p4), .val (.int p5), .val (.int (2 : Int32)), .val (.int ea), .val (.int eb), .val (.int ec), .val (.int p1), .val (.ref al), .unset, .unset] [(.int (2 : Int32))]))
          refine own_st (fun t k => XS.iconst X307.here hx rfl (hb hby at_132) k) ?_
          show own_G _ _ _ _ _ _ _ (T307.setTop (mkF m 133 #[.val (.int p1), .val (.int p2), .val (.int p3), .val (.int p4), .val (.int p5), .val (.int (2 : Int32)), .val (.int ea), .val (.int eb), .val (.int ec), .val (.int p1), .val (.ref al), .unset, .unset] [(.int (2 : Int32)), (.int (2 : Int32))]))
          refine own_st (fun t k => XS.icmpNo X307.here hx rfl (hb hby at_133) rfl (teq rfl).2 k) ?_
          show own_G _ _ _ _ _ _ _ (T307.setTop (mkF m 136 #[.val (.int p1), .val (.int p2), .val (.int p3), .val (.int p4), .val (.int p5), .val (.int (2 : Int32)), .val (.int ea), .val (.int eb), .val (.int ec), .val (.int p1), .val (.ref al), .unset, .unset] []))
          have J153 : ∀ (v11 : Int32), v11 = own_b (ea = p1 ∧ eb = p1) → own_G p.tables e below s (own_Q0 n0) room_1.cells room_1.slots (T307.setTop (mkF m 153 #[.val (.int p1), .val (.int p2), .val (.int p3), .val (.int p4), .val (.int p5), .val (.int (2 : Int32)), .val (.int ea), .val (.int eb), .val (.int ec), .val (.int p1), .val (.ref al), .unset, .unset] [(.int v11)])) := by
            intro v11 hv11
            refine own_st (fun t k => XS.istore X307.here hx rfl (hb hby at_153) rfl (l' := #[.val (.int p1), .val (.int p2), .val (.int p3), .val (.int p4), .val (.int p5), .val (.int (2 : Int32)), .val (.int ea), .val (.int eb), .val (.int ec), .val (.int p1), .val (.ref al), .val (.int v11), .unset]) rfl k) ?_
            show own_G _ _ _ _ _ _ _ (T307.setTop (mkF m 155 #[.val (.int p1), .val (.int p2), .val (.int p3), .val (.int p4), .val (.int p5), .val (.int (2 : Int32)), .val (.int ea), .val (.int eb), .val (.int ec), .val (.int p1), .val (.ref al), .val (.int v11), .unset] []))
            obtain ⟨T315, h315, X315, e315, E315, A315, D315, -, st315⟩ := newO X307 hx hZ hown (hw _ (List.mem_of_getElem? (i := 26) rfl)) (hw _ (List.mem_of_getElem? (i := 27) rfl)) (hw _ (List.mem_of_getElem? (i := 28) rfl)) rfl (g := (mkF m 155 #[.val (.int p1), .val (.int p2), .val (.int p3), .val (.int p4), .val (.int p5), .val (.int (2 : Int32)), .val (.int ea), .val (.int eb), .val (.int ec), .val (.int p1), .val (.ref al), .val (.int v11), .unset] [])) rfl (hb hby at_155) (by decide) (by decide)
            obtain ⟨ch, g315⟩ : ∃ z, z = T307.heap.size := ⟨_, rfl⟩
            rw [← g315] at A315 D315 st315
            refine own_st (fun t k => st315 t k) ?_
            show own_G _ _ _ _ _ _ _ (T315.setTop (mkF m 158 #[.val (.int p1), .val (.int p2), .val (.int p3), .val (.int p4), .val (.int p5), .val (.int (2 : Int32)), .val (.int ea), .val (.int eb), .val (.int ec), .val (.int p1), .val (.ref al), .val (.int v11), .unset] [(.ref ch)]))
            have ge_ch : n0 ≤ ch := Nat.le_trans Zz314 (Nat.le_of_eq g315.symm)
            have ne_al_ch : al ≠ ch := Nat.ne_of_lt (Nat.lt_of_lt_of_le Ea307.lt (Nat.le_of_eq g315.symm))
            have ne_x_0_ch : x_0 ≠ ch := Nat.ne_of_lt (Nat.lt_of_lt_of_le X0_310.lt (Nat.le_of_eq g315.symm))
            have ne_x_1_ch : x_1 ≠ ch := Nat.ne_of_lt (Nat.lt_of_lt_of_le X1_312.lt (Nat.le_of_eq g315.symm))
            have ne_d1_ch : d1 ≠ ch := Nat.ne_of_lt (Nat.lt_of_lt_of_le Vd307.lt (Nat.le_of_eq g315.symm))
            have O_316 := O_308.ext E315
            have E_317 := Ea307.ext E315
            have X0_318 := X0_310.ext E315
            have XV0_319 := XV0_311.ext E315
            have X1_320 := X1_312.ext E315
            have XV1_321 := XV1_313.ext E315
            have fm_322 := Fa307.ext E315
            have fs_323 := Fb307.ext E315
            have fe_324 := Fc307.ext E315
            have V_325 := Vd307.ext E315
            have Zz326 : n0 ≤ h315.size := Nat.le_trans Zz314 E315.1
            have R1 : Fld Z h315 ch "com/example/strigine/strigine/Roles$Chain" "roles" "Ljava/util/List;" .null := D315 (Or.inr (hw _ (List.mem_of_getElem? (i := 39) rfl))) (ty := .object "java/util/List") (by decide)
            have R2 : Fld Z h315 ch "com/example/strigine/strigine/Roles$Chain" "sup" "I" (.int 0) := D315 (Or.inr (hw _ (List.mem_of_getElem? (i := 41) rfl))) (ty := .int) (by decide)
            refine own_st (fun t k => XS.dup X315.here hx rfl (hb hby at_158) rfl rfl k) ?_
            show own_G _ _ _ _ _ _ _ (T315.setTop (mkF m 159 #[.val (.int p1), .val (.int p2), .val (.int p3), .val (.int p4), .val (.int p5), .val (.int (2 : Int32)), .val (.int ea), .val (.int eb), .val (.int ec), .val (.int p1), .val (.ref al), .val (.int v11), .unset] [(.ref ch), (.ref ch)]))
            refine own_st (fun t k => XS.aload X315.here hx rfl (hb hby at_159) rfl rfl k) ?_
            show own_G _ _ _ _ _ _ _ (T315.setTop (mkF m 161 #[.val (.int p1), .val (.int p2), .val (.int p3), .val (.int p4), .val (.int p5), .val (.int (2 : Int32)), .val (.int ea), .val (.int eb), .val (.int ec), .val (.int p1), .val (.ref al), .val (.int v11), .unset] [(.ref al), (.ref ch), (.ref ch)]))
            refine own_st (fun t k => XS.iloadN X315.here hx rfl (hb hby at_161) rfl k) ?_
            show own_G _ _ _ _ _ _ _ (T315.setTop (mkF m 162 #[.val (.int p1), .val (.int p2), .val (.int p3), .val (.int p4), .val (.int p5), .val (.int (2 : Int32)), .val (.int ea), .val (.int eb), .val (.int ec), .val (.int p1), .val (.ref al), .val (.int v11), .unset] [(.int p1), (.ref al), (.ref ch), (.ref ch)]))
            obtain ⟨_, _, ⟨T327, L327, k327, n327⟩, -, X327, ⟨Lc327, hQ327, l327, y327, z327⟩, st327⟩ := X315.specialBack hx (y := (⟨"com/example/strigine/strigine/Roles$Chain", "<init>", "(Ljava/util/List;I)V"⟩ : MethodName)) rfl hown (mvT hZ (hw _ (List.mem_of_getElem? (i := 29) rfl))) (mvT hZ (hw _ (List.mem_of_getElem? (i := 30) rfl))) (mvT hZ (hw _ (List.mem_of_getElem? (i := 31) rfl))) (by decide) (backOf (W := 1) (own_rm40 l Z a0 hw [] ch al p1 h315 n0 Zz326 A315 R1 R2 ge_ch) hZ (hw _ (List.mem_of_getElem? (i := 31) rfl)) (hw _ (List.mem_of_getElem? (i := 28) rfl)) (by decide) (by decide)) (g := (mkF m 162 #[.val (.int p1), .val (.int p2), .val (.int p3), .val (.int p4), .val (.int p5), .val (.int (2 : Int32)), .val (.int ea), .val (.int eb), .val (.int ec), .val (.int p1), .val (.ref al), .val (.int v11), .unset] [(.int p1), (.ref al), (.ref ch), (.ref ch)])) rfl (by rw [hml]; rfl) (Steps.refl _) (a := ch) (argsL := [(.ref al), (.int p1)]) (rest := [(.ref ch)]) (lenOf own_pd2 rfl) rfl (by show 2 * 0 + _ ≤ _; exact Nat.le_of_eq rfl) (hb hby at_162) (fun _ _ => ⟨rfl, e315, (by decide : 5 + 0 ≤ _), (by decide : 17 + 0 ≤ _)⟩)
            dsimp only [Pt.U, Pt.locs, Pt.cells, Pt.slots] at X327 l327 y327 z327 st327 hQ327
            subst l327 y327 z327
            obtain ⟨rfl, N327q, K327, Ec327, Fr327, Fu327⟩ := hQ327
            have N327 := Fr.app N307 N327q
            refine own_st (fun t k => st327.trans k) ?_
            show own_G _ _ _ _ _ _ _ (T327.setTop (mkF m 165 #[.val (.int p1), .val (.int p2), .val (.int p3), .val (.int p4), .val (.int p5), .val (.int (2 : Int32)), .val (.int ea), .val (.int eb), .val (.int ec), .val (.int p1), .val (.ref al), .val (.int v11), .unset] [(.ref ch)]))
            have O_328 := O_316.keep K327 (allS ge_ch all0)
            have E_329 := E_317.keep K327
            have X0_330 := X0_318.keep K327
            have XV0_331 := XV0_319.keep K327 (ninS ne_x_0_ch nin0)
            have X1_332 := X1_320.keep K327
            have XV1_333 := XV1_321.keep K327 (ninS ne_x_1_ch nin0)
            have fm_334 := fm_322.keep K327 (ninS ne_al_ch nin0)
            have fs_335 := fs_323.keep K327 (ninS ne_al_ch nin0)
            have fe_336 := fe_324.keep K327 (ninS ne_al_ch nin0)
            have V_337 := V_325.keep K327 (ninS ne_d1_ch nin0)
            have Zz338 : n0 ≤ _ := Nat.le_trans Zz326 K327.1
            obtain ⟨cq339, kq339, q339a, q339b, q339c⟩ := isOf hZ rfl Ec327
            obtain ⟨_, _, ⟨T339, L339, k339, n339⟩, -, X339, ⟨Lc339, hQ339, l339, y339, z339⟩, st339⟩ := X327.virtualBack hx (y := (⟨"com/example/strigine/strigine/Roles$Chain", "isTransitivity", "()Z"⟩ : MethodName)) (z := (⟨"com/example/strigine/strigine/Roles$Chain", "isTransitivity", "()Z"⟩ : MethodName)) hown (mvT hZ (hw _ (List.mem_of_getElem? (i := 42) rfl))) (mvT hZ (hw _ (List.mem_of_getElem? (i := 43) rfl))) (notFace_of_selects (args := #[]) (mvT hZ (hw _ (List.mem_of_getElem? (i := 45) rfl)))) (mvT hZ (hw _ (List.mem_of_getElem? (i := 45) rfl))) (mvT hZ (hw _ (List.mem_of_getElem? (i := 44) rfl))) (by decide) (backOf (W := 0) (own_rm42 l Z a0 hw [] ch al p1 d1 k1 x_0 x_1 ea eb T327.heap n0 Zz338 Fr327 Fu327 E_329 fs_335 fe_336 V_337 X0_330 XV0_331 X1_332 XV1_333) hZ (hw _ (List.mem_of_getElem? (i := 46) rfl)) (hw _ (List.mem_of_getElem? (i := 28) rfl)) (by decide) (by decide)) q339a q339c (g := (mkF m 165 #[.val (.int p1), .val (.int p2), .val (.int p3), .val (.int p4), .val (.int p5), .val (.int (2 : Int32)), .val (.int ea), .val (.int eb), .val (.int ec), .val (.int p1), .val (.ref al), .val (.int v11), .unset] [(.ref ch)])) rfl (by rw [hml]; rfl) (Steps.refl _) (argsL := []) (rest := []) (lenOf own_pd3 rfl) rfl (by show 2 * 0 + _ ≤ _; exact Nat.le_of_eq rfl) (hb hby at_165) (fun _ _ => ⟨rfl, rfl, (by decide : 5 + 0 ≤ _), (by decide : 17 + 0 ≤ _)⟩)
            dsimp only [Pt.U, Pt.locs, Pt.cells, Pt.slots] at X339 l339 y339 z339 st339 hQ339
            subst l339 y339 z339
            obtain ⟨rfl, N339q, e339⟩ := hQ339
            have N339 := Fr.app N327 N339q
            refine own_st (fun t k => st339.trans k) ?_
            show own_G _ _ _ _ _ _ _ (T339.setTop (mkF m 168 #[.val (.int p1), .val (.int p2), .val (.int p3), .val (.int p4), .val (.int p5), .val (.int (2 : Int32)), .val (.int ea), .val (.int eb), .val (.int ec), .val (.int p1), .val (.ref al), .val (.int v11), .unset] [(.int (own_b (ea = p1 ∧ eb = p1)))]))
            refine own_st (fun t k => XS.istore X339.here hx rfl (hb hby at_168) rfl (l' := #[.val (.int p1), .val (.int p2), .val (.int p3), .val (.int p4), .val (.int p5), .val (.int (2 : Int32)), .val (.int ea), .val (.int eb), .val (.int ec), .val (.int p1), .val (.ref al), .val (.int v11), .val (.int (own_b (ea = p1 ∧ eb = p1)))]) rfl k) ?_
            show own_G _ _ _ _ _ _ _ (T339.setTop (mkF m 170 #[.val (.int p1), .val (.int p2), .val (.int p3), .val (.int p4), .val (.int p5), .val (.int (2 : Int32)), .val (.int ea), .val (.int eb), .val (.int ec), .val (.int p1), .val (.ref al), .val (.int v11), .val (.int (own_b (ea = p1 ∧ eb = p1)))] []))
            refine own_st (fun t k => XS.iload X339.here hx rfl (hb hby at_170) rfl k) ?_
            show own_G _ _ _ _ _ _ _ (T339.setTop (mkF m 172 #[.val (.int p1), .val (.int p2), .val (.int p3), .val (.int p4), .val (.int p5), .val (.int (2 : Int32)), .val (.int ea), .val (.int eb), .val (.int ec), .val (.int p1), .val (.ref al), .val (.int v11), .val (.int (own_b (ea = p1 ∧ eb = p1)))] [(.int (own_b (ea = p1 ∧ eb = p1)))]))
            refine own_st (fun t k => XS.iload X339.here hx rfl (hb hby at_172) rfl k) ?_
            show own_G _ _ _ _ _ _ _ (T339.setTop (mkF m 174 #[.val (.int p1), .val (.int p2), .val (.int p3), .val (.int p4), .val (.int p5), .val (.int (2 : Int32)), .val (.int ea), .val (.int eb), .val (.int ec), .val (.int p1), .val (.ref al), .val (.int v11), .val (.int (own_b (ea = p1 ∧ eb = p1)))] [(.int v11), (.int (own_b (ea = p1 ∧ eb = p1)))]))
            refine own_st (fun t k => XS.icmpNo X339.here hx rfl (hb hby at_174) rfl (teq hv11.symm).2 k) ?_
            show own_G _ _ _ _ _ _ _ (T339.setTop (mkF m 177 #[.val (.int p1), .val (.int p2), .val (.int p3), .val (.int p4), .val (.int p5), .val (.int (2 : Int32)), .val (.int ea), .val (.int eb), .val (.int ec), .val (.int p1), .val (.ref al), .val (.int v11), .val (.int (own_b (ea = p1 ∧ eb = p1)))] []))
            refine own_st (fun t k => XS.iconst X339.here hx rfl (hb hby at_177) k) ?_
            show own_G _ _ _ _ _ _ _ (T339.setTop (mkF m 178 #[.val (.int p1), .val (.int p2), .val (.int p3), .val (.int p4), .val (.int p5), .val (.int (2 : Int32)), .val (.int ea), .val (.int eb), .val (.int ec), .val (.int p1), .val (.ref al), .val (.int v11), .val (.int (own_b (ea = p1 ∧ eb = p1)))] [(.int (1 : Int32))]))
            refine own_st (fun t k => XS.goto X339.here hx rfl (pc0 := 178) (pc' := 182) rfl (hb hby at_178) (by decide) (by decide) k) ?_
            show own_G _ _ _ _ _ _ _ (T339.setTop (mkF m 182 #[.val (.int p1), .val (.int p2), .val (.int p3), .val (.int p4), .val (.int p5), .val (.int (2 : Int32)), .val (.int ea), .val (.int eb), .val (.int ec), .val (.int p1), .val (.ref al), .val (.int v11), .val (.int (own_b (ea = p1 ∧ eb = p1)))] [(.int (1 : Int32))]))
            exact own_retN (t := .boolean) (by simp) X339 hx Bd.returns (BodyLoose.notSynchronized Bd) (hb hby at_182) (by decide) (by decide) ⟨rfl, N339⟩
          refine own_st (fun t k => XS.iload X307.here hx rfl (hb hby at_136) rfl k) ?_
          show own_G _ _ _ _ _ _ _ (T307.setTop (mkF m 138 #[.val (.int p1), .val (.int p2), .val (.int p3), .val (.int p4), .val (.int p5), .val (.int (2 : Int32)), .val (.int ea), .val (.int eb), .val (.int ec), .val (.int p1), .val (.ref al), .unset, .unset] [(.int ea)]))
          refine own_st (fun t k => XS.iloadN X307.here hx rfl (hb hby at_138) rfl k) ?_
          show own_G _ _ _ _ _ _ _ (T307.setTop (mkF m 139 #[.val (.int p1), .val (.int p2), .val (.int p3), .val (.int p4), .val (.int p5), .val (.int (2 : Int32)), .val (.int ea), .val (.int eb), .val (.int ec), .val (.int p1), .val (.ref al), .unset, .unset] [(.int p1), (.int ea)]))
          by_cases q0 : ea = p1
          · refine own_st (fun t k => XS.icmpNo X307.here hx rfl (hb hby at_139) rfl (teq q0).2 k) ?_
            show own_G _ _ _ _ _ _ _ (T307.setTop (mkF m 142 #[.val (.int p1), .val (.int p2), .val (.int p3), .val (.int p4), .val (.int p5), .val (.int (2 : Int32)), .val (.int ea), .val (.int eb), .val (.int ec), .val (.int p1), .val (.ref al), .unset, .unset] []))
            refine own_st (fun t k => XS.iload X307.here hx rfl (hb hby at_142) rfl k) ?_
            show own_G _ _ _ _ _ _ _ (T307.setTop (mkF m 144 #[.val (.int p1), .val (.int p2), .val (.int p3), .val (.int p4), .val (.int p5), .val (.int (2 : Int32)), .val (.int ea), .val (.int eb), .val (.int ec), .val (.int p1), .val (.ref al), .unset, .unset] [(.int eb)]))
            refine own_st (fun t k => XS.iloadN X307.here hx rfl (hb hby at_144) rfl k) ?_
            show own_G _ _ _ _ _ _ _ (T307.setTop (mkF m 145 #[.val (.int p1), .val (.int p2), .val (.int p3), .val (.int p4), .val (.int p5), .val (.int (2 : Int32)), .val (.int ea), .val (.int eb), .val (.int ec), .val (.int p1), .val (.ref al), .unset, .unset] [(.int p1), (.int eb)]))
            by_cases q1 : eb = p1
            · refine own_st (fun t k => XS.icmpNo X307.here hx rfl (hb hby at_145) rfl (teq q1).2 k) ?_
              show own_G _ _ _ _ _ _ _ (T307.setTop (mkF m 148 #[.val (.int p1), .val (.int p2), .val (.int p3), .val (.int p4), .val (.int p5), .val (.int (2 : Int32)), .val (.int ea), .val (.int eb), .val (.int ec), .val (.int p1), .val (.ref al), .unset, .unset] []))
              refine own_st (fun t k => XS.iconst X307.here hx rfl (hb hby at_148) k) ?_
              show own_G _ _ _ _ _ _ _ (T307.setTop (mkF m 149 #[.val (.int p1), .val (.int p2), .val (.int p3), .val (.int p4), .val (.int p5), .val (.int (2 : Int32)), .val (.int ea), .val (.int eb), .val (.int ec), .val (.int p1), .val (.ref al), .unset, .unset] [(.int (1 : Int32))]))
              refine own_st (fun t k => XS.goto X307.here hx rfl (pc0 := 149) (pc' := 153) rfl (hb hby at_149) (by decide) (by decide) k) ?_
              show own_G _ _ _ _ _ _ _ (T307.setTop (mkF m 153 #[.val (.int p1), .val (.int p2), .val (.int p3), .val (.int p4), .val (.int p5), .val (.int (2 : Int32)), .val (.int ea), .val (.int eb), .val (.int ec), .val (.int p1), .val (.ref al), .unset, .unset] [(.int (1 : Int32))]))
              exact J153 _ (by rw [own_b, if_pos ⟨q0, q1⟩])
            · refine own_st (fun t k => XS.icmpYes X307.here hx rfl (pc0 := 145) (pc' := 152) rfl (hb hby at_145) rfl (feq q1).2 (by decide) (by decide) k) ?_
              show own_G _ _ _ _ _ _ _ (T307.setTop (mkF m 152 #[.val (.int p1), .val (.int p2), .val (.int p3), .val (.int p4), .val (.int p5), .val (.int (2 : Int32)), .val (.int ea), .val (.int eb), .val (.int ec), .val (.int p1), .val (.ref al), .unset, .unset] []))
              refine own_st (fun t k => XS.iconst X307.here hx rfl (hb hby at_152) k) ?_
              show own_G _ _ _ _ _ _ _ (T307.setTop (mkF m 153 #[.val (.int p1), .val (.int p2), .val (.int p3), .val (.int p4), .val (.int p5), .val (.int (2 : Int32)), .val (.int ea), .val (.int eb), .val (.int ec), .val (.int p1), .val (.ref al), .unset, .unset] [(.int (0 : Int32))]))
              exact J153 _ (by rw [own_b, if_neg fun z => q1 z.2])
          · refine own_st (fun t k => XS.icmpYes X307.here hx rfl (pc0 := 139) (pc' := 152) rfl (hb hby at_139) rfl (feq q0).2 (by decide) (by decide) k) ?_
            show own_G _ _ _ _ _ _ _ (T307.setTop (mkF m 152 #[.val (.int p1), .val (.int p2), .val (.int p3), .val (.int p4), .val (.int p5), .val (.int (2 : Int32)), .val (.int ea), .val (.int eb), .val (.int ec), .val (.int p1), .val (.ref al), .unset, .unset] []))
            refine own_st (fun t k => XS.iconst X307.here hx rfl (hb hby at_152) k) ?_
            show own_G _ _ _ _ _ _ _ (T307.setTop (mkF m 153 #[.val (.int p1), .val (.int p2), .val (.int p3), .val (.int p4), .val (.int p5), .val (.int (2 : Int32)), .val (.int ea), .val (.int eb), .val (.int ec), .val (.int p1), .val (.ref al), .unset, .unset] [(.int (0 : Int32))]))
            exact J153 _ (by rw [own_b, if_neg fun z => q0 z.1])
        · show own_G _ _ _ _ _ _ _ (T232.setTop (mkF m 65 #[.val (.int p1), .val (.int p2), .val (.int p3), .val (.int p4), .val (.int p5), .val (.int (3 : Int32)), .val (.int ea), .val (.int eb), .val (.int ec), .val (.int p1), .val (.ref al), .unset, .unset] [(.int (3 : Int32))]))
          refine own_st (fun t k => XS.ifNo X232.here hx rfl (hb hby at_65) rfl ((if0 _ _).trans (tlt (by decide)).2.2.2) k) ?_
          show own_G _ _ _ _ _ _ _ (T232.setTop (mkF m 68 #[.val (.int p1), .val (.int p2), .val (.int p3), .val (.int p4), .val (.int p5), .val (.int (3 : Int32)), .val (.int ea), .val (.int eb), .val (.int ec), .val (.int p1), .val (.ref al), .unset, .unset] []))
          refine own_st (fun t k => XS.aload X232.here hx rfl (hb hby at_68) rfl rfl k) ?_
          show own_G _ _ _ _ _ _ _ (T232.setTop (mkF m 70 #[.val (.int p1), .val (.int p2), .val (.int p3), .val (.int p4), .val (.int p5), .val (.int (3 : Int32)), .val (.int ea), .val (.int eb), .val (.int ec), .val (.int p1), .val (.ref al), .unset, .unset] [(.ref al)]))
          refine own_st (fun t k => XS.iload X232.here hx rfl (hb hby at_70) rfl k) ?_
          show own_G _ _ _ _ _ _ _ (T232.setTop (mkF m 72 #[.val (.int p1), .val (.int p2), .val (.int p3), .val (.int p4), .val (.int p5), .val (.int (3 : Int32)), .val (.int ea), .val (.int eb), .val (.int ec), .val (.int p1), .val (.ref al), .unset, .unset] [(.int ea), (.ref al)]))
          obtain ⟨_, _, ⟨T340, L340, k340, n340⟩, -, X340, ⟨Lc340, hQ340, l340, y340, z340⟩, st340⟩ := Jvm.LawKit.callS X232 hx (y := (⟨"java/lang/Integer", "valueOf", "(I)Ljava/lang/Integer;"⟩ : MethodName)) hown (mvT hZ (hw _ (List.mem_of_getElem? (i := 58) rfl))) (mvT hZ (hw _ (List.mem_of_getElem? (i := 59) rfl))) (mvT hZ (hw _ (List.mem_of_getElem? (i := 60) rfl))) (mvT hZ (hw _ (List.mem_of_getElem? (i := 61) rfl))) (by decide) (backOf (W := 1) (own_rm7 l Z a0 hw [] ea ca cc T232.heap n0 Zz234 O_233 Sh Sc Bx) hZ (hw _ (List.mem_of_getElem? (i := 61) rfl)) (hw _ (List.mem_of_getElem? (i := 60) rfl)) (by decide) (by decide)) (g := (mkF m 72 #[.val (.int p1), .val (.int p2), .val (.int p3), .val (.int p4), .val (.int p5), .val (.int (3 : Int32)), .val (.int ea), .val (.int eb), .val (.int ec), .val (.int p1), .val (.ref al), .unset, .unset] [(.int ea), (.ref al)])) rfl (by rw [hml]; rfl) (argsL := [(.int ea)]) (rest := [(.ref al)]) (lenOf own_pd5 rfl) rfl (by show 2 * 0 + _ ≤ _; exact Nat.le_of_eq rfl) (hb hby at_72) (fun _ _ => ⟨rfl, rfl, (by decide : 1 + 1 ≤ _), (by decide : 3 + 1 ≤ _)⟩)
          dsimp only [Pt.U, Pt.locs, Pt.cells, Pt.slots] at X340 l340 y340 z340 st340 hQ340
          subst l340 y340 z340
          obtain ⟨x_0, rfl, N340q, K340, Eb340, Vb340⟩ := hQ340
          have N340 := Fr.app N232 N340q
          refine own_st (fun t k => st340 t k) ?_
          show own_G _ _ _ _ _ _ _ (T340.setTop (mkF m 75 #[.val (.int p1), .val (.int p2), .val (.int p3), .val (.int p4), .val (.int p5), .val (.int (3 : Int32)), .val (.int ea), .val (.int eb), .val (.int ec), .val (.int p1), .val (.ref al), .unset, .unset] [(.ref x_0), (.ref al)]))
          have O_341 := O_233.keep K340 all0
          have E_342 := Ea232.keep K340
          have fm_343 := Fa232.keep K340 nin0
          have fs_344 := Fb232.keep K340 nin0
          have fe_345 := Fc232.keep K340 nin0
          have Zz346 : n0 ≤ _ := Nat.le_trans Zz234 K340.1
          have ne_x_0_al : x_0 ≠ al := ne_exa Eb340 E_342 (by decide)
          obtain ⟨cq347, kq347, q347a, q347b, q347c⟩ := isOf hZ rfl E_342
          obtain ⟨_, _, ⟨T347, L347, k347, n347⟩, -, X347, ⟨Lc347, hQ347, l347, y347, z347⟩, st347⟩ := X340.virtualBack hx (y := (⟨"java/util/ArrayList", "add", "(Ljava/lang/Object;)Z"⟩ : MethodName)) (z := (⟨"java/util/ArrayList", "add", "(Ljava/lang/Object;)Z"⟩ : MethodName)) hown (mvT hZ (hw _ (List.mem_of_getElem? (i := 65) rfl))) (mvT hZ (hw _ (List.mem_of_getElem? (i := 66) rfl))) (notFace_of_selects (args := #[]) (mvT hZ (hw _ (List.mem_of_getElem? (i := 68) rfl)))) (mvT hZ (hw _ (List.mem_of_getElem? (i := 68) rfl))) (mvT hZ (hw _ (List.mem_of_getElem? (i := 67) rfl))) (by decide) (backOf (W := 0) (own_rm18 l Z a0 hw [] al x_0 (0 : Int32) df kf T340.heap n0 Zz346 E_342 fm_343 fs_344 fe_345 ge_al (Sd.ext O_341.2) (Vf.ext O_341.2) Eb340 nf) hZ (hw _ (List.mem_of_getElem? (i := 69) rfl)) (hw _ (List.mem_of_getElem? (i := 2) rfl)) (by decide) (by decide)) q347a q347c (g := (mkF m 75 #[.val (.int p1), .val (.int p2), .val (.int p3), .val (.int p4), .val (.int p5), .val (.int (3 : Int32)), .val (.int ea), .val (.int eb), .val (.int ec), .val (.int p1), .val (.ref al), .unset, .unset] [(.ref x_0), (.ref al)])) rfl (by rw [hml]; rfl) (Steps.refl _) (argsL := [(.ref x_0)]) (rest := []) (lenOf own_pd6 rfl) rfl (by show 2 * 0 + _ ≤ _; exact Nat.le_of_eq rfl) (hb hby at_75) (fun _ _ => ⟨rfl, rfl, (by decide : 2 + 1 ≤ _), (by decide : 4 + 10 ≤ _)⟩)
          dsimp only [Pt.U, Pt.locs, Pt.cells, Pt.slots] at X347 l347 y347 z347 st347 hQ347
          subst l347 y347 z347
          obtain ⟨d1, k1, rfl, N347q, K347, Ea347, Fa347, Fb347, Fc347, Vd347, Ov347, s1347, s2347⟩ := hQ347
          have N347 := Fr.app N340 N347q
          refine own_st (fun t k => st347.trans k) ?_
          show own_G _ _ _ _ _ _ _ (T347.setTop (mkF m 78 #[.val (.int p1), .val (.int p2), .val (.int p3), .val (.int p4), .val (.int p5), .val (.int (3 : Int32)), .val (.int ea), .val (.int eb), .val (.int ec), .val (.int p1), .val (.ref al), .unset, .unset] [(.int (1 : Int32))]))
          have ne_al_d1 : al ≠ d1 := Nat.ne_of_lt (Nat.lt_of_lt_of_le E_342.lt s1347)
          have ne_x_0_d1 : x_0 ≠ d1 := Nat.ne_of_lt (Nat.lt_of_lt_of_le Eb340.lt s1347)
          have O_348 := O_341.keep K347 (allS ge_al all0)
          have E_349 := E_342.keep K347
          have X0_350 := Eb340.keep K347
          have XV0_351 := Vb340.keep K347 (ninS ne_x_0_al nin0)
          have Zz352 : n0 ≤ _ := Nat.le_trans Zz346 K347.1
          refine own_st (fun t k => XS.pop X347.here hx rfl (hb hby at_78) rfl rfl k) ?_
          show own_G _ _ _ _ _ _ _ (T347.setTop (mkF m 79 #[.val (.int p1), .val (.int p2), .val (.int p3), .val (.int p4), .val (.int p5), .val (.int (3 : Int32)), .val (.int ea), .val (.int eb), .val (.int ec), .val (.int p1), .val (.ref al), .unset, .unset] []))
          refine own_st (fun t k => XS.iload X347.here hx rfl (hb hby at_79) rfl k) ?_
          show own_G _ _ _ _ _ _ _ (T347.setTop (mkF m 81 #[.val (.int p1), .val (.int p2), .val (.int p3), .val (.int p4), .val (.int p5), .val (.int (3 : Int32)), .val (.int ea), .val (.int eb), .val (.int ec), .val (.int p1), .val (.ref al), .unset, .unset] [(.int (3 : Int32))]))
          refine own_st (fun t k => XS.iconst X347.here hx rfl (hb hby at_81) k) ?_
          show own_G _ _ _ _ _ _ _ (T347.setTop (mkF m 82 #[.val (.int p1), .val (.int p2), .val (.int p3), .val (.int p4), .val (.int p5), .val (.int (3 : Int32)), .val (.int ea), .val (.int eb), .val (.int ec), .val (.int p1), .val (.ref al), .unset, .unset] [(.int (1 : Int32)), (.int (3 : Int32))]))
          refine own_st (fun t k => XS.icmpNo X347.here hx rfl (hb hby at_82) rfl (tlt (by decide)).2.2.2 k) ?_
          show own_G _ _ _ _ _ _ _ (T347.setTop (mkF m 85 #[.val (.int p1), .val (.int p2), .val (.int p3), .val (.int p4), .val (.int p5), .val (.int (3 : Int32)), .val (.int ea), .val (.int eb), .val (.int ec), .val (.int p1), .val (.ref al), .unset, .unset] []))
          refine own_st (fun t k => XS.aload X347.here hx rfl (hb hby at_85) rfl rfl k) ?_
          show own_G _ _ _ _ _ _ _ (T347.setTop (mkF m 87 #[.val (.int p1), .val (.int p2), .val (.int p3), .val (.int p4), .val (.int p5), .val (.int (3 : Int32)), .val (.int ea), .val (.int eb), .val (.int ec), .val (.int p1), .val (.ref al), .unset, .unset] [(.ref al)]))
          refine own_st (fun t k => XS.iload X347.here hx rfl (hb hby at_87) rfl k) ?_
          show own_G _ _ _ _ _ _ _ (T347.setTop (mkF m 89 #[.val (.int p1), .val (.int p2), .val (.int p3), .val (.int p4), .val (.int p5), .val (.int (3 : Int32)), .val (.int ea), .val (.int eb), .val (.int ec), .val (.int p1), .val (.ref al), .unset, .unset] [(.int eb), (.ref al)]))
          obtain ⟨_, _, ⟨T353, L353, k353, n353⟩, -, X353, ⟨Lc353, hQ353, l353, y353, z353⟩, st353⟩ := Jvm.LawKit.callS X347 hx (y := (⟨"java/lang/Integer", "valueOf", "(I)Ljava/lang/Integer;"⟩ : MethodName)) hown (mvT hZ (hw _ (List.mem_of_getElem? (i := 58) rfl))) (mvT hZ (hw _ (List.mem_of_getElem? (i := 59) rfl))) (mvT hZ (hw _ (List.mem_of_getElem? (i := 60) rfl))) (mvT hZ (hw _ (List.mem_of_getElem? (i := 61) rfl))) (by decide) (backOf (W := 1) (own_rm7 l Z a0 hw [] eb ca cc T347.heap n0 Zz352 O_348 Sh Sc Bx) hZ (hw _ (List.mem_of_getElem? (i := 61) rfl)) (hw _ (List.mem_of_getElem? (i := 60) rfl)) (by decide) (by decide)) (g := (mkF m 89 #[.val (.int p1), .val (.int p2), .val (.int p3), .val (.int p4), .val (.int p5), .val (.int (3 : Int32)), .val (.int ea), .val (.int eb), .val (.int ec), .val (.int p1), .val (.ref al), .unset, .unset] [(.int eb), (.ref al)])) rfl (by rw [hml]; rfl) (argsL := [(.int eb)]) (rest := [(.ref al)]) (lenOf own_pd5 rfl) rfl (by show 2 * 0 + _ ≤ _; exact Nat.le_of_eq rfl) (hb hby at_89) (fun _ _ => ⟨rfl, rfl, (by decide : 3 + 1 ≤ _), (by decide : 14 + 1 ≤ _)⟩)
          dsimp only [Pt.U, Pt.locs, Pt.cells, Pt.slots] at X353 l353 y353 z353 st353 hQ353
          subst l353 y353 z353
          obtain ⟨x_1, rfl, N353q, K353, Eb353, Vb353⟩ := hQ353
          have N353 := Fr.app N347 N353q
          refine own_st (fun t k => st353 t k) ?_
          show own_G _ _ _ _ _ _ _ (T353.setTop (mkF m 92 #[.val (.int p1), .val (.int p2), .val (.int p3), .val (.int p4), .val (.int p5), .val (.int (3 : Int32)), .val (.int ea), .val (.int eb), .val (.int ec), .val (.int p1), .val (.ref al), .unset, .unset] [(.ref x_1), (.ref al)]))
          have O_354 := O_348.keep K353 all0
          have E_355 := Ea347.keep K353
          have X0_356 := X0_350.keep K353
          have XV0_357 := XV0_351.keep K353 nin0
          have fm_358 := Fa347.keep K353 nin0
          have fs_359 := Fb347.keep K353 nin0
          have fe_360 := Fc347.keep K353 nin0
          have V_361 := Vd347.keep K353 nin0
          have Zz362 : n0 ≤ _ := Nat.le_trans Zz352 K353.1
          have ne_x_1_al : x_1 ≠ al := ne_exa Eb353 E_355 (by decide)
          have ne_x_1_d1 : x_1 ≠ d1 := own_nea Eb353 (hw _ (List.mem_of_getElem? (i := 95) rfl)) V_361
          obtain ⟨cq363, kq363, q363a, q363b, q363c⟩ := isOf hZ rfl E_355
          obtain ⟨_, _, ⟨T363, L363, k363, n363⟩, -, X363, ⟨Lc363, hQ363, l363, y363, z363⟩, st363⟩ := X353.virtualBack hx (y := (⟨"java/util/ArrayList", "add", "(Ljava/lang/Object;)Z"⟩ : MethodName)) (z := (⟨"java/util/ArrayList", "add", "(Ljava/lang/Object;)Z"⟩ : MethodName)) hown (mvT hZ (hw _ (List.mem_of_getElem? (i := 65) rfl))) (mvT hZ (hw _ (List.mem_of_getElem? (i := 66) rfl))) (notFace_of_selects (args := #[]) (mvT hZ (hw _ (List.mem_of_getElem? (i := 68) rfl)))) (mvT hZ (hw _ (List.mem_of_getElem? (i := 68) rfl))) (mvT hZ (hw _ (List.mem_of_getElem? (i := 67) rfl))) (by decide) (backOf (W := 0) (own_rm31 l Z a0 hw [] al x_0 x_1 ((0 : Int32) + 1) d1 k1 T353.heap n0 Zz362 E_355 fm_358 fs_359 fe_360 ge_al V_361 Ov347 s2347 ne_al_d1 Eb353) hZ (hw _ (List.mem_of_getElem? (i := 69) rfl)) (hw _ (List.mem_of_getElem? (i := 2) rfl)) (by decide) (by decide)) q363a q363c (g := (mkF m 92 #[.val (.int p1), .val (.int p2), .val (.int p3), .val (.int p4), .val (.int p5), .val (.int (3 : Int32)), .val (.int ea), .val (.int eb), .val (.int ec), .val (.int p1), .val (.ref al), .unset, .unset] [(.ref x_1), (.ref al)])) rfl (by rw [hml]; rfl) (Steps.refl _) (argsL := [(.ref x_1)]) (rest := []) (lenOf own_pd6 rfl) rfl (by show 2 * 0 + _ ≤ _; exact Nat.le_of_eq rfl) (hb hby at_92) (fun _ _ => ⟨rfl, rfl, (by decide : 4 + 0 ≤ _), (by decide : 15 + 0 ≤ _)⟩)
          dsimp only [Pt.U, Pt.locs, Pt.cells, Pt.slots] at X363 l363 y363 z363 st363 hQ363
          subst l363 y363 z363
          obtain ⟨rfl, N363q, K363, Ea363, Fa363, Fb363, Fc363, Vd363⟩ := hQ363
          have N363 := Fr.app N353 N363q
          refine own_st (fun t k => st363.trans k) ?_
          show own_G _ _ _ _ _ _ _ (T363.setTop (mkF m 95 #[.val (.int p1), .val (.int p2), .val (.int p3), .val (.int p4), .val (.int p5), .val (.int (3 : Int32)), .val (.int ea), .val (.int eb), .val (.int ec), .val (.int p1), .val (.ref al), .unset, .unset] [(.int (1 : Int32))]))
          have O_364 := O_354.keep K363 (allS ge_al (allS s2347 all0))
          have E_365 := E_355.keep K363
          have X0_366 := X0_356.keep K363
          have XV0_367 := XV0_357.keep K363 (ninS ne_x_0_al (ninS ne_x_0_d1 nin0))
          have X1_368 := Eb353.keep K363
          have XV1_369 := Vb353.keep K363 (ninS ne_x_1_al (ninS ne_x_1_d1 nin0))
          have Zz370 : n0 ≤ _ := Nat.le_trans Zz362 K363.1
          refine own_st (fun t k => XS.pop X363.here hx rfl (hb hby at_95) rfl rfl k) ?_
          show own_G _ _ _ _ _ _ _ (T363.setTop (mkF m 96 #[.val (.int p1), .val (.int p2), .val (.int p3), .val (.int p4), .val (.int p5), .val (.int (3 : Int32)), .val (.int ea), .val (.int eb), .val (.int ec), .val (.int p1), .val (.ref al), .unset, .unset] []))
          refine own_st (fun t k => XS.iload X363.here hx rfl (hb hby at_96) rfl k) ?_
          show own_G _ _ _ _ _ _ _ (T363.setTop (mkF m 98 #[.val (.int p1), .val (.int p2), .val (.int p3), .val (.int p4), .val (.int p5), .val (.int (3 : Int32)), .val (.int ea), .val (.int eb), .val (.int ec), .val (.int p1), .val (.ref al), .unset, .unset] [(.int (3 : Int32))]))
          refine own_st (fun t k => XS.iconst X363.here hx rfl (hb hby at_98) k) ?_
          show own_G _ _ _ _ _ _ _ (T363.setTop (mkF m 99 #[.val (.int p1), .val (.int p2), .val (.int p3), .val (.int p4), .val (.int p5), .val (.int (3 : Int32)), .val (.int ea), .val (.int eb), .val (.int ec), .val (.int p1), .val (.ref al), .unset, .unset] [(.int (2 : Int32)), (.int (3 : Int32))]))
          refine own_st (fun t k => XS.icmpNo X363.here hx rfl (hb hby at_99) rfl (tlt (by decide)).2.2.2 k) ?_
          show own_G _ _ _ _ _ _ _ (T363.setTop (mkF m 102 #[.val (.int p1), .val (.int p2), .val (.int p3), .val (.int p4), .val (.int p5), .val (.int (3 : Int32)), .val (.int ea), .val (.int eb), .val (.int ec), .val (.int p1), .val (.ref al), .unset, .unset] []))
          refine own_st (fun t k => XS.aload X363.here hx rfl (hb hby at_102) rfl rfl k) ?_
          show own_G _ _ _ _ _ _ _ (T363.setTop (mkF m 104 #[.val (.int p1), .val (.int p2), .val (.int p3), .val (.int p4), .val (.int p5), .val (.int (3 : Int32)), .val (.int ea), .val (.int eb), .val (.int ec), .val (.int p1), .val (.ref al), .unset, .unset] [(.ref al)]))
          refine own_st (fun t k => XS.iload X363.here hx rfl (hb hby at_104) rfl k) ?_
          show own_G _ _ _ _ _ _ _ (T363.setTop (mkF m 106 #[.val (.int p1), .val (.int p2), .val (.int p3), .val (.int p4), .val (.int p5), .val (.int (3 : Int32)), .val (.int ea), .val (.int eb), .val (.int ec), .val (.int p1), .val (.ref al), .unset, .unset] [(.int ec), (.ref al)]))
          obtain ⟨_, _, ⟨T371, L371, k371, n371⟩, -, X371, ⟨Lc371, hQ371, l371, y371, z371⟩, st371⟩ := Jvm.LawKit.callS X363 hx (y := (⟨"java/lang/Integer", "valueOf", "(I)Ljava/lang/Integer;"⟩ : MethodName)) hown (mvT hZ (hw _ (List.mem_of_getElem? (i := 58) rfl))) (mvT hZ (hw _ (List.mem_of_getElem? (i := 59) rfl))) (mvT hZ (hw _ (List.mem_of_getElem? (i := 60) rfl))) (mvT hZ (hw _ (List.mem_of_getElem? (i := 61) rfl))) (by decide) (backOf (W := 1) (own_rm7 l Z a0 hw [] ec ca cc T363.heap n0 Zz370 O_364 Sh Sc Bx) hZ (hw _ (List.mem_of_getElem? (i := 61) rfl)) (hw _ (List.mem_of_getElem? (i := 60) rfl)) (by decide) (by decide)) (g := (mkF m 106 #[.val (.int p1), .val (.int p2), .val (.int p3), .val (.int p4), .val (.int p5), .val (.int (3 : Int32)), .val (.int ea), .val (.int eb), .val (.int ec), .val (.int p1), .val (.ref al), .unset, .unset] [(.int ec), (.ref al)])) rfl (by rw [hml]; rfl) (argsL := [(.int ec)]) (rest := [(.ref al)]) (lenOf own_pd5 rfl) rfl (by show 2 * 0 + _ ≤ _; exact Nat.le_of_eq rfl) (hb hby at_106) (fun _ _ => ⟨rfl, rfl, (by decide : 4 + 1 ≤ _), (by decide : 15 + 1 ≤ _)⟩)
          dsimp only [Pt.U, Pt.locs, Pt.cells, Pt.slots] at X371 l371 y371 z371 st371 hQ371
          subst l371 y371 z371
          obtain ⟨x_2, rfl, N371q, K371, Eb371, Vb371⟩ := hQ371
          have N371 := Fr.app N363 N371q
          refine own_st (fun t k => st371 t k) ?_
          show own_G _ _ _ _ _ _ _ (T371.setTop (mkF m 109 #[.val (.int p1), .val (.int p2), .val (.int p3), .val (.int p4), .val (.int p5), .val (.int (3 : Int32)), .val (.int ea), .val (.int eb), .val (.int ec), .val (.int p1), .val (.ref al), .unset, .unset] [(.ref x_2), (.ref al)]))
          have O_372 := O_364.keep K371 all0
          have E_373 := Ea363.keep K371
          have X0_374 := X0_366.keep K371
          have XV0_375 := XV0_367.keep K371 nin0
          have X1_376 := X1_368.keep K371
          have XV1_377 := XV1_369.keep K371 nin0
          have fm_378 := Fa363.keep K371 nin0
          have fs_379 := Fb363.keep K371 nin0
          have fe_380 := Fc363.keep K371 nin0
          have V_381 := Vd363.keep K371 nin0
          have Zz382 : n0 ≤ _ := Nat.le_trans Zz370 K371.1
          have ne_x_2_al : x_2 ≠ al := ne_exa Eb371 E_373 (by decide)
          have ne_x_2_d1 : x_2 ≠ d1 := own_nea Eb371 (hw _ (List.mem_of_getElem? (i := 95) rfl)) V_381
          obtain ⟨cq383, kq383, q383a, q383b, q383c⟩ := isOf hZ rfl E_373
          obtain ⟨_, _, ⟨T383, L383, k383, n383⟩, -, X383, ⟨Lc383, hQ383, l383, y383, z383⟩, st383⟩ := X371.virtualBack hx (y := (⟨"java/util/ArrayList", "add", "(Ljava/lang/Object;)Z"⟩ : MethodName)) (z := (⟨"java/util/ArrayList", "add", "(Ljava/lang/Object;)Z"⟩ : MethodName)) hown (mvT hZ (hw _ (List.mem_of_getElem? (i := 65) rfl))) (mvT hZ (hw _ (List.mem_of_getElem? (i := 66) rfl))) (notFace_of_selects (args := #[]) (mvT hZ (hw _ (List.mem_of_getElem? (i := 68) rfl)))) (mvT hZ (hw _ (List.mem_of_getElem? (i := 68) rfl))) (mvT hZ (hw _ (List.mem_of_getElem? (i := 67) rfl))) (by decide) (backOf (W := 0) (own_rm32 l Z a0 hw [] al x_0 x_1 x_2 (((0 : Int32) + 1) + 1) d1 k1 T371.heap n0 Zz382 E_373 fm_378 fs_379 fe_380 ge_al V_381 Ov347 s2347 ne_al_d1 Eb371) hZ (hw _ (List.mem_of_getElem? (i := 69) rfl)) (hw _ (List.mem_of_getElem? (i := 2) rfl)) (by decide) (by decide)) q383a q383c (g := (mkF m 109 #[.val (.int p1), .val (.int p2), .val (.int p3), .val (.int p4), .val (.int p5), .val (.int (3 : Int32)), .val (.int ea), .val (.int eb), .val (.int ec), .val (.int p1), .val (.ref al), .unset, .unset] [(.ref x_2), (.ref al)])) rfl (by rw [hml]; rfl) (Steps.refl _) (argsL := [(.ref x_2)]) (rest := []) (lenOf own_pd6 rfl) rfl (by show 2 * 0 + _ ≤ _; exact Nat.le_of_eq rfl) (hb hby at_109) (fun _ _ => ⟨rfl, rfl, (by decide : 5 + 0 ≤ _), (by decide : 16 + 0 ≤ _)⟩)
          dsimp only [Pt.U, Pt.locs, Pt.cells, Pt.slots] at X383 l383 y383 z383 st383 hQ383
          subst l383 y383 z383
          obtain ⟨rfl, N383q, K383, Ea383, Fa383, Fb383, Fc383, Vd383⟩ := hQ383
          have N383 := Fr.app N371 N383q
          refine own_st (fun t k => st383.trans k) ?_
          show own_G _ _ _ _ _ _ _ (T383.setTop (mkF m 112 #[.val (.int p1), .val (.int p2), .val (.int p3), .val (.int p4), .val (.int p5), .val (.int (3 : Int32)), .val (.int ea), .val (.int eb), .val (.int ec), .val (.int p1), .val (.ref al), .unset, .unset] [(.int (1 : Int32))]))
          have O_384 := O_372.keep K383 (allS ge_al (allS s2347 all0))
          have E_385 := E_373.keep K383
          have X0_386 := X0_374.keep K383
          have XV0_387 := XV0_375.keep K383 (ninS ne_x_0_al (ninS ne_x_0_d1 nin0))
          have X1_388 := X1_376.keep K383
          have XV1_389 := XV1_377.keep K383 (ninS ne_x_1_al (ninS ne_x_1_d1 nin0))
          have X2_390 := Eb371.keep K383
          have XV2_391 := Vb371.keep K383 (ninS ne_x_2_al (ninS ne_x_2_d1 nin0))
          have Zz392 : n0 ≤ _ := Nat.le_trans Zz382 K383.1
          refine own_st (fun t k => XS.pop X383.here hx rfl (hb hby at_112) rfl rfl k) ?_
          show own_G _ _ _ _ _ _ _ (T383.setTop (mkF m 113 #[.val (.int p1), .val (.int p2), .val (.int p3), .val (.int p4), .val (.int p5), .val (.int (3 : Int32)), .val (.int ea), .val (.int eb), .val (.int ec), .val (.int p1), .val (.ref al), .unset, .unset] []))
          refine own_st (fun t k => XS.iload X383.here hx rfl (hb hby at_113) rfl k) ?_
          show own_G _ _ _ _ _ _ _ (T383.setTop (mkF m 115 #[.val (.int p1), .val (.int p2), .val (.int p3), .val (.int p4), .val (.int p5), .val (.int (3 : Int32)), .val (.int ea), .val (.int eb), .val (.int ec), .val (.int p1), .val (.ref al), .unset, .unset] [(.int (3 : Int32))]))
          refine own_st (fun t k => XS.iconst X383.here hx rfl (hb hby at_115) k) ?_
          show own_G _ _ _ _ _ _ _ (T383.setTop (mkF m 116 #[.val (.int p1), .val (.int p2), .val (.int p3), .val (.int p4), .val (.int p5), .val (.int (3 : Int32)), .val (.int ea), .val (.int eb), .val (.int ec), .val (.int p1), .val (.ref al), .unset, .unset] [(.int (3 : Int32)), (.int (3 : Int32))]))
          refine own_st (fun t k => XS.icmpYes X383.here hx rfl (pc0 := 116) (pc' := 130) rfl (hb hby at_116) rfl (flt (by decide)).2.2.2 (by decide) (by decide) k) ?_
          show own_G _ _ _ _ _ _ _ (T383.setTop (mkF m 130 #[.val (.int p1), .val (.int p2), .val (.int p3), .val (.int p4), .val (.int p5), .val (.int (3 : Int32)), .val (.int ea), .val (.int eb), .val (.int ec), .val (.int p1), .val (.ref al), .unset, .unset] []))
          refine own_st (fun t k => XS.iload X383.here hx rfl (hb hby at_130) rfl k) ?_
          show own_G _ _ _ _ _ _ _ (T383.setTop (mkF m 132 #[.val (.int p1), .val (.int p2), .val (.int p3), .val (.int p4), .val (.int p5), .val (.int (3 : Int32)), .val (.int ea), .val (.int eb), .val (.int ec), .val (.int p1), .val (.ref al), .unset, .unset] [(.int (3 : Int32))]))
          refine own_st (fun t k => XS.iconst X383.here hx rfl (hb hby at_132) k) ?_
          show own_G _ _ _ _ _ _ _ (T383.setTop (mkF m 133 #[.val (.int p1), .val (.int p2), .val (.int p3), .val (.int p4), .val (.int p5), .val (.int (3 : Int32)), .val (.int ea), .val (.int eb), .val (.int ec), .val (.int p1), .val (.ref al), .unset, .unset] [(.int (2 : Int32)), (.int (3 : Int32))]))
          refine own_st (fun t k => XS.icmpYes X383.here hx rfl (pc0 := 133) (pc' := 152) rfl (hb hby at_133) rfl (feq (by decide)).2 (by decide) (by decide) k) ?_
          show own_G _ _ _ _ _ _ _ (T383.setTop (mkF m 152 #[.val (.int p1), .val (.int p2), .val (.int p3), .val (.int p4), .val (.int p5), .val (.int (3 : Int32)), .val (.int ea), .val (.int eb), .val (.int ec), .val (.int p1), .val (.ref al), .unset, .unset] []))
          refine own_st (fun t k => XS.iconst X383.here hx rfl (hb hby at_152) k) ?_
          show own_G _ _ _ _ _ _ _ (T383.setTop (mkF m 153 #[.val (.int p1), .val (.int p2), .val (.int p3), .val (.int p4), .val (.int p5), .val (.int (3 : Int32)), .val (.int ea), .val (.int eb), .val (.int ec), .val (.int p1), .val (.ref al), .unset, .unset] [(.int (0 : Int32))]))
          refine own_st (fun t k => XS.istore X383.here hx rfl (hb hby at_153) rfl (l' := #[.val (.int p1), .val (.int p2), .val (.int p3), .val (.int p4), .val (.int p5), .val (.int (3 : Int32)), .val (.int ea), .val (.int eb), .val (.int ec), .val (.int p1), .val (.ref al), .val (.int (0 : Int32)), .unset]) rfl k) ?_
          show own_G _ _ _ _ _ _ _ (T383.setTop (mkF m 155 #[.val (.int p1), .val (.int p2), .val (.int p3), .val (.int p4), .val (.int p5), .val (.int (3 : Int32)), .val (.int ea), .val (.int eb), .val (.int ec), .val (.int p1), .val (.ref al), .val (.int (0 : Int32)), .unset] []))
          obtain ⟨T393, h393, X393, e393, E393, A393, D393, -, st393⟩ := newO X383 hx hZ hown (hw _ (List.mem_of_getElem? (i := 26) rfl)) (hw _ (List.mem_of_getElem? (i := 27) rfl)) (hw _ (List.mem_of_getElem? (i := 28) rfl)) rfl (g := (mkF m 155 #[.val (.int p1), .val (.int p2), .val (.int p3), .val (.int p4), .val (.int p5), .val (.int (3 : Int32)), .val (.int ea), .val (.int eb), .val (.int ec), .val (.int p1), .val (.ref al), .val (.int (0 : Int32)), .unset] [])) rfl (hb hby at_155) (by decide) (by decide)
          obtain ⟨ch, g393⟩ : ∃ z, z = T383.heap.size := ⟨_, rfl⟩
          rw [← g393] at A393 D393 st393
          refine own_st (fun t k => st393 t k) ?_
          show own_G _ _ _ _ _ _ _ (T393.setTop (mkF m 158 #[.val (.int p1), .val (.int p2), .val (.int p3), .val (.int p4), .val (.int p5), .val (.int (3 : Int32)), .val (.int ea), .val (.int eb), .val (.int ec), .val (.int p1), .val (.ref al), .val (.int (0 : Int32)), .unset] [(.ref ch)]))
          have ge_ch : n0 ≤ ch := Nat.le_trans Zz392 (Nat.le_of_eq g393.symm)
          have ne_al_ch : al ≠ ch := Nat.ne_of_lt (Nat.lt_of_lt_of_le Ea383.lt (Nat.le_of_eq g393.symm))
          have ne_x_0_ch : x_0 ≠ ch := Nat.ne_of_lt (Nat.lt_of_lt_of_le X0_386.lt (Nat.le_of_eq g393.symm))
          have ne_x_1_ch : x_1 ≠ ch := Nat.ne_of_lt (Nat.lt_of_lt_of_le X1_388.lt (Nat.le_of_eq g393.symm))
          have ne_x_2_ch : x_2 ≠ ch := Nat.ne_of_lt (Nat.lt_of_lt_of_le X2_390.lt (Nat.le_of_eq g393.symm))
          have ne_d1_ch : d1 ≠ ch := Nat.ne_of_lt (Nat.lt_of_lt_of_le Vd383.lt (Nat.le_of_eq g393.symm))
          have O_394 := O_384.ext E393
          have E_395 := Ea383.ext E393
          have X0_396 := X0_386.ext E393
          have XV0_397 := XV0_387.ext E393
          have X1_398 := X1_388.ext E393
          have XV1_399 := XV1_389.ext E393
          have X2_400 := X2_390.ext E393
          have XV2_401 := XV2_391.ext E393
          have fm_402 := Fa383.ext E393
          have fs_403 := Fb383.ext E393
          have fe_404 := Fc383.ext E393
          have V_405 := Vd383.ext E393
          have Zz406 : n0 ≤ h393.size := Nat.le_trans Zz392 E393.1
          have R1 : Fld Z h393 ch "com/example/strigine/strigine/Roles$Chain" "roles" "Ljava/util/List;" .null := D393 (Or.inr (hw _ (List.mem_of_getElem? (i := 39) rfl))) (ty := .object "java/util/List") (by decide)
          have R2 : Fld Z h393 ch "com/example/strigine/strigine/Roles$Chain" "sup" "I" (.int 0) := D393 (Or.inr (hw _ (List.mem_of_getElem? (i := 41) rfl))) (ty := .int) (by decide)
          refine own_st (fun t k => XS.dup X393.here hx rfl (hb hby at_158) rfl rfl k) ?_
          show own_G _ _ _ _ _ _ _ (T393.setTop (mkF m 159 #[.val (.int p1), .val (.int p2), .val (.int p3), .val (.int p4), .val (.int p5), .val (.int (3 : Int32)), .val (.int ea), .val (.int eb), .val (.int ec), .val (.int p1), .val (.ref al), .val (.int (0 : Int32)), .unset] [(.ref ch), (.ref ch)]))
          refine own_st (fun t k => XS.aload X393.here hx rfl (hb hby at_159) rfl rfl k) ?_
          show own_G _ _ _ _ _ _ _ (T393.setTop (mkF m 161 #[.val (.int p1), .val (.int p2), .val (.int p3), .val (.int p4), .val (.int p5), .val (.int (3 : Int32)), .val (.int ea), .val (.int eb), .val (.int ec), .val (.int p1), .val (.ref al), .val (.int (0 : Int32)), .unset] [(.ref al), (.ref ch), (.ref ch)]))
          refine own_st (fun t k => XS.iloadN X393.here hx rfl (hb hby at_161) rfl k) ?_
          show own_G _ _ _ _ _ _ _ (T393.setTop (mkF m 162 #[.val (.int p1), .val (.int p2), .val (.int p3), .val (.int p4), .val (.int p5), .val (.int (3 : Int32)), .val (.int ea), .val (.int eb), .val (.int ec), .val (.int p1), .val (.ref al), .val (.int (0 : Int32)), .unset] [(.int p1), (.ref al), (.ref ch), (.ref ch)]))
          obtain ⟨_, _, ⟨T407, L407, k407, n407⟩, -, X407, ⟨Lc407, hQ407, l407, y407, z407⟩, st407⟩ := X393.specialBack hx (y := (⟨"com/example/strigine/strigine/Roles$Chain", "<init>", "(Ljava/util/List;I)V"⟩ : MethodName)) rfl hown (mvT hZ (hw _ (List.mem_of_getElem? (i := 29) rfl))) (mvT hZ (hw _ (List.mem_of_getElem? (i := 30) rfl))) (mvT hZ (hw _ (List.mem_of_getElem? (i := 31) rfl))) (by decide) (backOf (W := 1) (own_rm40 l Z a0 hw [] ch al p1 h393 n0 Zz406 A393 R1 R2 ge_ch) hZ (hw _ (List.mem_of_getElem? (i := 31) rfl)) (hw _ (List.mem_of_getElem? (i := 28) rfl)) (by decide) (by decide)) (g := (mkF m 162 #[.val (.int p1), .val (.int p2), .val (.int p3), .val (.int p4), .val (.int p5), .val (.int (3 : Int32)), .val (.int ea), .val (.int eb), .val (.int ec), .val (.int p1), .val (.ref al), .val (.int (0 : Int32)), .unset] [(.int p1), (.ref al), (.ref ch), (.ref ch)])) rfl (by rw [hml]; rfl) (Steps.refl _) (a := ch) (argsL := [(.ref al), (.int p1)]) (rest := [(.ref ch)]) (lenOf own_pd2 rfl) rfl (by show 2 * 0 + _ ≤ _; exact Nat.le_of_eq rfl) (hb hby at_162) (fun _ _ => ⟨rfl, e393, (by decide : 6 + 0 ≤ _), (by decide : 18 + 0 ≤ _)⟩)
          dsimp only [Pt.U, Pt.locs, Pt.cells, Pt.slots] at X407 l407 y407 z407 st407 hQ407
          subst l407 y407 z407
          obtain ⟨rfl, N407q, K407, Ec407, Fr407, Fu407⟩ := hQ407
          have N407 := Fr.app N383 N407q
          refine own_st (fun t k => st407.trans k) ?_
          show own_G _ _ _ _ _ _ _ (T407.setTop (mkF m 165 #[.val (.int p1), .val (.int p2), .val (.int p3), .val (.int p4), .val (.int p5), .val (.int (3 : Int32)), .val (.int ea), .val (.int eb), .val (.int ec), .val (.int p1), .val (.ref al), .val (.int (0 : Int32)), .unset] [(.ref ch)]))
          have O_408 := O_394.keep K407 (allS ge_ch all0)
          have E_409 := E_395.keep K407
          have X0_410 := X0_396.keep K407
          have XV0_411 := XV0_397.keep K407 (ninS ne_x_0_ch nin0)
          have X1_412 := X1_398.keep K407
          have XV1_413 := XV1_399.keep K407 (ninS ne_x_1_ch nin0)
          have X2_414 := X2_400.keep K407
          have XV2_415 := XV2_401.keep K407 (ninS ne_x_2_ch nin0)
          have fm_416 := fm_402.keep K407 (ninS ne_al_ch nin0)
          have fs_417 := fs_403.keep K407 (ninS ne_al_ch nin0)
          have fe_418 := fe_404.keep K407 (ninS ne_al_ch nin0)
          have V_419 := V_405.keep K407 (ninS ne_d1_ch nin0)
          have Zz420 : n0 ≤ _ := Nat.le_trans Zz406 K407.1
          obtain ⟨cq421, kq421, q421a, q421b, q421c⟩ := isOf hZ rfl Ec407
          obtain ⟨_, _, ⟨T421, L421, k421, n421⟩, -, X421, ⟨Lc421, hQ421, l421, y421, z421⟩, st421⟩ := X407.virtualBack hx (y := (⟨"com/example/strigine/strigine/Roles$Chain", "isTransitivity", "()Z"⟩ : MethodName)) (z := (⟨"com/example/strigine/strigine/Roles$Chain", "isTransitivity", "()Z"⟩ : MethodName)) hown (mvT hZ (hw _ (List.mem_of_getElem? (i := 42) rfl))) (mvT hZ (hw _ (List.mem_of_getElem? (i := 43) rfl))) (notFace_of_selects (args := #[]) (mvT hZ (hw _ (List.mem_of_getElem? (i := 45) rfl)))) (mvT hZ (hw _ (List.mem_of_getElem? (i := 45) rfl))) (mvT hZ (hw _ (List.mem_of_getElem? (i := 44) rfl))) (by decide) (backOf (W := 0) (own_rm41 l Z a0 hw [] ch al p1 (3 : Int32) T407.heap n0 Zz420 Fr407 Fu407 E_409 fs_417 (by decide)) hZ (hw _ (List.mem_of_getElem? (i := 46) rfl)) (hw _ (List.mem_of_getElem? (i := 28) rfl)) (by decide) (by decide)) q421a q421c (g := (mkF m 165 #[.val (.int p1), .val (.int p2), .val (.int p3), .val (.int p4), .val (.int p5), .val (.int (3 : Int32)), .val (.int ea), .val (.int eb), .val (.int ec), .val (.int p1), .val (.ref al), .val (.int (0 : Int32)), .unset] [(.ref ch)])) rfl (by rw [hml]; rfl) (Steps.refl _) (argsL := []) (rest := []) (lenOf own_pd3 rfl) rfl (by show 2 * 0 + _ ≤ _; exact Nat.le_of_eq rfl) (hb hby at_165) (fun _ _ => ⟨rfl, rfl, (by decide : 6 + 0 ≤ _), (by decide : 18 + 0 ≤ _)⟩)
          dsimp only [Pt.U, Pt.locs, Pt.cells, Pt.slots] at X421 l421 y421 z421 st421 hQ421
          subst l421 y421 z421
          obtain ⟨rfl, N421q, e421⟩ := hQ421
          have N421 := Fr.app N407 N421q
          refine own_st (fun t k => st421.trans k) ?_
          show own_G _ _ _ _ _ _ _ (T421.setTop (mkF m 168 #[.val (.int p1), .val (.int p2), .val (.int p3), .val (.int p4), .val (.int p5), .val (.int (3 : Int32)), .val (.int ea), .val (.int eb), .val (.int ec), .val (.int p1), .val (.ref al), .val (.int (0 : Int32)), .unset] [(.int (0 : Int32))]))
          refine own_st (fun t k => XS.istore X421.here hx rfl (hb hby at_168) rfl (l' := #[.val (.int p1), .val (.int p2), .val (.int p3), .val (.int p4), .val (.int p5), .val (.int (3 : Int32)), .val (.int ea), .val (.int eb), .val (.int ec), .val (.int p1), .val (.ref al), .val (.int (0 : Int32)), .val (.int (0 : Int32))]) rfl k) ?_
          show own_G _ _ _ _ _ _ _ (T421.setTop (mkF m 170 #[.val (.int p1), .val (.int p2), .val (.int p3), .val (.int p4), .val (.int p5), .val (.int (3 : Int32)), .val (.int ea), .val (.int eb), .val (.int ec), .val (.int p1), .val (.ref al), .val (.int (0 : Int32)), .val (.int (0 : Int32))] []))
          refine own_st (fun t k => XS.iload X421.here hx rfl (hb hby at_170) rfl k) ?_
          show own_G _ _ _ _ _ _ _ (T421.setTop (mkF m 172 #[.val (.int p1), .val (.int p2), .val (.int p3), .val (.int p4), .val (.int p5), .val (.int (3 : Int32)), .val (.int ea), .val (.int eb), .val (.int ec), .val (.int p1), .val (.ref al), .val (.int (0 : Int32)), .val (.int (0 : Int32))] [(.int (0 : Int32))]))
          refine own_st (fun t k => XS.iload X421.here hx rfl (hb hby at_172) rfl k) ?_
          show own_G _ _ _ _ _ _ _ (T421.setTop (mkF m 174 #[.val (.int p1), .val (.int p2), .val (.int p3), .val (.int p4), .val (.int p5), .val (.int (3 : Int32)), .val (.int ea), .val (.int eb), .val (.int ec), .val (.int p1), .val (.ref al), .val (.int (0 : Int32)), .val (.int (0 : Int32))] [(.int (0 : Int32)), (.int (0 : Int32))]))
          refine own_st (fun t k => XS.icmpNo X421.here hx rfl (hb hby at_174) rfl (teq rfl).2 k) ?_
          show own_G _ _ _ _ _ _ _ (T421.setTop (mkF m 177 #[.val (.int p1), .val (.int p2), .val (.int p3), .val (.int p4), .val (.int p5), .val (.int (3 : Int32)), .val (.int ea), .val (.int eb), .val (.int ec), .val (.int p1), .val (.ref al), .val (.int (0 : Int32)), .val (.int (0 : Int32))] []))
          refine own_st (fun t k => XS.iconst X421.here hx rfl (hb hby at_177) k) ?_
          show own_G _ _ _ _ _ _ _ (T421.setTop (mkF m 178 #[.val (.int p1), .val (.int p2), .val (.int p3), .val (.int p4), .val (.int p5), .val (.int (3 : Int32)), .val (.int ea), .val (.int eb), .val (.int ec), .val (.int p1), .val (.ref al), .val (.int (0 : Int32)), .val (.int (0 : Int32))] [(.int (1 : Int32))]))
          refine own_st (fun t k => XS.goto X421.here hx rfl (pc0 := 178) (pc' := 182) rfl (hb hby at_178) (by decide) (by decide) k) ?_
          show own_G _ _ _ _ _ _ _ (T421.setTop (mkF m 182 #[.val (.int p1), .val (.int p2), .val (.int p3), .val (.int p4), .val (.int p5), .val (.int (3 : Int32)), .val (.int ea), .val (.int eb), .val (.int ec), .val (.int p1), .val (.ref al), .val (.int (0 : Int32)), .val (.int (0 : Int32))] [(.int (1 : Int32))]))
          exact own_retN (t := .boolean) (by simp) X421 hx Bd.returns (BodyLoose.notSynchronized Bd) (hb hby at_182) (by decide) (by decide) ⟨rfl, N421⟩
        · show own_G _ _ _ _ _ _ _ (T232.setTop (mkF m 65 #[.val (.int p1), .val (.int p2), .val (.int p3), .val (.int p4), .val (.int p5), .val (.int (4 : Int32)), .val (.int ea), .val (.int eb), .val (.int ec), .val (.int p1), .val (.ref al), .unset, .unset] [(.int (4 : Int32))]))
          refine own_st (fun t k => XS.ifNo X232.here hx rfl (hb hby at_65) rfl ((if0 _ _).trans (tlt (by decide)).2.2.2) k) ?_
          show own_G _ _ _ _ _ _ _ (T232.setTop (mkF m 68 #[.val (.int p1), .val (.int p2), .val (.int p3), .val (.int p4), .val (.int p5), .val (.int (4 : Int32)), .val (.int ea), .val (.int eb), .val (.int ec), .val (.int p1), .val (.ref al), .unset, .unset] []))
          refine own_st (fun t k => XS.aload X232.here hx rfl (hb hby at_68) rfl rfl k) ?_
          show own_G _ _ _ _ _ _ _ (T232.setTop (mkF m 70 #[.val (.int p1), .val (.int p2), .val (.int p3), .val (.int p4), .val (.int p5), .val (.int (4 : Int32)), .val (.int ea), .val (.int eb), .val (.int ec), .val (.int p1), .val (.ref al), .unset, .unset] [(.ref al)]))
          refine own_st (fun t k => XS.iload X232.here hx rfl (hb hby at_70) rfl k) ?_
          show own_G _ _ _ _ _ _ _ (T232.setTop (mkF m 72 #[.val (.int p1), .val (.int p2), .val (.int p3), .val (.int p4), .val (.int p5), .val (.int (4 : Int32)), .val (.int ea), .val (.int eb), .val (.int ec), .val (.int p1), .val (.ref al), .unset, .unset] [(.int ea), (.ref al)]))
          obtain ⟨_, _, ⟨T422, L422, k422, n422⟩, -, X422, ⟨Lc422, hQ422, l422, y422, z422⟩, st422⟩ := Jvm.LawKit.callS X232 hx (y := (⟨"java/lang/Integer", "valueOf", "(I)Ljava/lang/Integer;"⟩ : MethodName)) hown (mvT hZ (hw _ (List.mem_of_getElem? (i := 58) rfl))) (mvT hZ (hw _ (List.mem_of_getElem? (i := 59) rfl))) (mvT hZ (hw _ (List.mem_of_getElem? (i := 60) rfl))) (mvT hZ (hw _ (List.mem_of_getElem? (i := 61) rfl))) (by decide) (backOf (W := 1) (own_rm7 l Z a0 hw [] ea ca cc T232.heap n0 Zz234 O_233 Sh Sc Bx) hZ (hw _ (List.mem_of_getElem? (i := 61) rfl)) (hw _ (List.mem_of_getElem? (i := 60) rfl)) (by decide) (by decide)) (g := (mkF m 72 #[.val (.int p1), .val (.int p2), .val (.int p3), .val (.int p4), .val (.int p5), .val (.int (4 : Int32)), .val (.int ea), .val (.int eb), .val (.int ec), .val (.int p1), .val (.ref al), .unset, .unset] [(.int ea), (.ref al)])) rfl (by rw [hml]; rfl) (argsL := [(.int ea)]) (rest := [(.ref al)]) (lenOf own_pd5 rfl) rfl (by show 2 * 0 + _ ≤ _; exact Nat.le_of_eq rfl) (hb hby at_72) (fun _ _ => ⟨rfl, rfl, (by decide : 1 + 1 ≤ _), (by decide : 3 + 1 ≤ _)⟩)
          dsimp only [Pt.U, Pt.locs, Pt.cells, Pt.slots] at X422 l422 y422 z422 st422 hQ422
          subst l422 y422 z422
          obtain ⟨x_0, rfl, N422q, K422, Eb422, Vb422⟩ := hQ422
          have N422 := Fr.app N232 N422q
          refine own_st (fun t k => st422 t k) ?_
          show own_G _ _ _ _ _ _ _ (T422.setTop (mkF m 75 #[.val (.int p1), .val (.int p2), .val (.int p3), .val (.int p4), .val (.int p5), .val (.int (4 : Int32)), .val (.int ea), .val (.int eb), .val (.int ec), .val (.int p1), .val (.ref al), .unset, .unset] [(.ref x_0), (.ref al)]))
          have O_423 := O_233.keep K422 all0
          have E_424 := Ea232.keep K422
          have fm_425 := Fa232.keep K422 nin0
          have fs_426 := Fb232.keep K422 nin0
          have fe_427 := Fc232.keep K422 nin0
          have Zz428 : n0 ≤ _ := Nat.le_trans Zz234 K422.1
          have ne_x_0_al : x_0 ≠ al := ne_exa Eb422 E_424 (by decide)
          obtain ⟨cq429, kq429, q429a, q429b, q429c⟩ := isOf hZ rfl E_424
          obtain ⟨_, _, ⟨T429, L429, k429, n429⟩, -, X429, ⟨Lc429, hQ429, l429, y429, z429⟩, st429⟩ := X422.virtualBack hx (y := (⟨"java/util/ArrayList", "add", "(Ljava/lang/Object;)Z"⟩ : MethodName)) (z := (⟨"java/util/ArrayList", "add", "(Ljava/lang/Object;)Z"⟩ : MethodName)) hown (mvT hZ (hw _ (List.mem_of_getElem? (i := 65) rfl))) (mvT hZ (hw _ (List.mem_of_getElem? (i := 66) rfl))) (notFace_of_selects (args := #[]) (mvT hZ (hw _ (List.mem_of_getElem? (i := 68) rfl)))) (mvT hZ (hw _ (List.mem_of_getElem? (i := 68) rfl))) (mvT hZ (hw _ (List.mem_of_getElem? (i := 67) rfl))) (by decide) (backOf (W := 0) (own_rm18 l Z a0 hw [] al x_0 (0 : Int32) df kf T422.heap n0 Zz428 E_424 fm_425 fs_426 fe_427 ge_al (Sd.ext O_423.2) (Vf.ext O_423.2) Eb422 nf) hZ (hw _ (List.mem_of_getElem? (i := 69) rfl)) (hw _ (List.mem_of_getElem? (i := 2) rfl)) (by decide) (by decide)) q429a q429c (g := (mkF m 75 #[.val (.int p1), .val (.int p2), .val (.int p3), .val (.int p4), .val (.int p5), .val (.int (4 : Int32)), .val (.int ea), .val (.int eb), .val (.int ec), .val (.int p1), .val (.ref al), .unset, .unset] [(.ref x_0), (.ref al)])) rfl (by rw [hml]; rfl) (Steps.refl _) (argsL := [(.ref x_0)]) (rest := []) (lenOf own_pd6 rfl) rfl (by show 2 * 0 + _ ≤ _; exact Nat.le_of_eq rfl) (hb hby at_75) (fun _ _ => ⟨rfl, rfl, (by decide : 2 + 1 ≤ _), (by decide : 4 + 10 ≤ _)⟩)
          dsimp only [Pt.U, Pt.locs, Pt.cells, Pt.slots] at X429 l429 y429 z429 st429 hQ429
          subst l429 y429 z429
          obtain ⟨d1, k1, rfl, N429q, K429, Ea429, Fa429, Fb429, Fc429, Vd429, Ov429, s1429, s2429⟩ := hQ429
          have N429 := Fr.app N422 N429q
          refine own_st (fun t k => st429.trans k) ?_
          show own_G _ _ _ _ _ _ _ (T429.setTop (mkF m 78 #[.val (.int p1), .val (.int p2), .val (.int p3), .val (.int p4), .val (.int p5), .val (.int (4 : Int32)), .val (.int ea), .val (.int eb), .val (.int ec), .val (.int p1), .val (.ref al), .unset, .unset] [(.int (1 : Int32))]))
          have ne_al_d1 : al ≠ d1 := Nat.ne_of_lt (Nat.lt_of_lt_of_le E_424.lt s1429)
          have ne_x_0_d1 : x_0 ≠ d1 := Nat.ne_of_lt (Nat.lt_of_lt_of_le Eb422.lt s1429)
          have O_430 := O_423.keep K429 (allS ge_al all0)
          have E_431 := E_424.keep K429
          have X0_432 := Eb422.keep K429
          have XV0_433 := Vb422.keep K429 (ninS ne_x_0_al nin0)
          have Zz434 : n0 ≤ _ := Nat.le_trans Zz428 K429.1
          refine own_st (fun t k => XS.pop X429.here hx rfl (hb hby at_78) rfl rfl k) ?_
          show own_G _ _ _ _ _ _ _ (T429.setTop (mkF m 79 #[.val (.int p1), .val (.int p2), .val (.int p3), .val (.int p4), .val (.int p5), .val (.int (4 : Int32)), .val (.int ea), .val (.int eb), .val (.int ec), .val (.int p1), .val (.ref al), .unset, .unset] []))
          refine own_st (fun t k => XS.iload X429.here hx rfl (hb hby at_79) rfl k) ?_
          show own_G _ _ _ _ _ _ _ (T429.setTop (mkF m 81 #[.val (.int p1), .val (.int p2), .val (.int p3), .val (.int p4), .val (.int p5), .val (.int (4 : Int32)), .val (.int ea), .val (.int eb), .val (.int ec), .val (.int p1), .val (.ref al), .unset, .unset] [(.int (4 : Int32))]))
          refine own_st (fun t k => XS.iconst X429.here hx rfl (hb hby at_81) k) ?_
          show own_G _ _ _ _ _ _ _ (T429.setTop (mkF m 82 #[.val (.int p1), .val (.int p2), .val (.int p3), .val (.int p4), .val (.int p5), .val (.int (4 : Int32)), .val (.int ea), .val (.int eb), .val (.int ec), .val (.int p1), .val (.ref al), .unset, .unset] [(.int (1 : Int32)), (.int (4 : Int32))]))
          refine own_st (fun t k => XS.icmpNo X429.here hx rfl (hb hby at_82) rfl (tlt (by decide)).2.2.2 k) ?_
          show own_G _ _ _ _ _ _ _ (T429.setTop (mkF m 85 #[.val (.int p1), .val (.int p2), .val (.int p3), .val (.int p4), .val (.int p5), .val (.int (4 : Int32)), .val (.int ea), .val (.int eb), .val (.int ec), .val (.int p1), .val (.ref al), .unset, .unset] []))
          refine own_st (fun t k => XS.aload X429.here hx rfl (hb hby at_85) rfl rfl k) ?_
          show own_G _ _ _ _ _ _ _ (T429.setTop (mkF m 87 #[.val (.int p1), .val (.int p2), .val (.int p3), .val (.int p4), .val (.int p5), .val (.int (4 : Int32)), .val (.int ea), .val (.int eb), .val (.int ec), .val (.int p1), .val (.ref al), .unset, .unset] [(.ref al)]))
          refine own_st (fun t k => XS.iload X429.here hx rfl (hb hby at_87) rfl k) ?_
          show own_G _ _ _ _ _ _ _ (T429.setTop (mkF m 89 #[.val (.int p1), .val (.int p2), .val (.int p3), .val (.int p4), .val (.int p5), .val (.int (4 : Int32)), .val (.int ea), .val (.int eb), .val (.int ec), .val (.int p1), .val (.ref al), .unset, .unset] [(.int eb), (.ref al)]))
          obtain ⟨_, _, ⟨T435, L435, k435, n435⟩, -, X435, ⟨Lc435, hQ435, l435, y435, z435⟩, st435⟩ := Jvm.LawKit.callS X429 hx (y := (⟨"java/lang/Integer", "valueOf", "(I)Ljava/lang/Integer;"⟩ : MethodName)) hown (mvT hZ (hw _ (List.mem_of_getElem? (i := 58) rfl))) (mvT hZ (hw _ (List.mem_of_getElem? (i := 59) rfl))) (mvT hZ (hw _ (List.mem_of_getElem? (i := 60) rfl))) (mvT hZ (hw _ (List.mem_of_getElem? (i := 61) rfl))) (by decide) (backOf (W := 1) (own_rm7 l Z a0 hw [] eb ca cc T429.heap n0 Zz434 O_430 Sh Sc Bx) hZ (hw _ (List.mem_of_getElem? (i := 61) rfl)) (hw _ (List.mem_of_getElem? (i := 60) rfl)) (by decide) (by decide)) (g := (mkF m 89 #[.val (.int p1), .val (.int p2), .val (.int p3), .val (.int p4), .val (.int p5), .val (.int (4 : Int32)), .val (.int ea), .val (.int eb), .val (.int ec), .val (.int p1), .val (.ref al), .unset, .unset] [(.int eb), (.ref al)])) rfl (by rw [hml]; rfl) (argsL := [(.int eb)]) (rest := [(.ref al)]) (lenOf own_pd5 rfl) rfl (by show 2 * 0 + _ ≤ _; exact Nat.le_of_eq rfl) (hb hby at_89) (fun _ _ => ⟨rfl, rfl, (by decide : 3 + 1 ≤ _), (by decide : 14 + 1 ≤ _)⟩)
          dsimp only [Pt.U, Pt.locs, Pt.cells, Pt.slots] at X435 l435 y435 z435 st435 hQ435
          subst l435 y435 z435
          obtain ⟨x_1, rfl, N435q, K435, Eb435, Vb435⟩ := hQ435
          have N435 := Fr.app N429 N435q
          refine own_st (fun t k => st435 t k) ?_
          show own_G _ _ _ _ _ _ _ (T435.setTop (mkF m 92 #[.val (.int p1), .val (.int p2), .val (.int p3), .val (.int p4), .val (.int p5), .val (.int (4 : Int32)), .val (.int ea), .val (.int eb), .val (.int ec), .val (.int p1), .val (.ref al), .unset, .unset] [(.ref x_1), (.ref al)]))
          have O_436 := O_430.keep K435 all0
          have E_437 := Ea429.keep K435
          have X0_438 := X0_432.keep K435
          have XV0_439 := XV0_433.keep K435 nin0
          have fm_440 := Fa429.keep K435 nin0
          have fs_441 := Fb429.keep K435 nin0
          have fe_442 := Fc429.keep K435 nin0
          have V_443 := Vd429.keep K435 nin0
          have Zz444 : n0 ≤ _ := Nat.le_trans Zz434 K435.1
          have ne_x_1_al : x_1 ≠ al := ne_exa Eb435 E_437 (by decide)
          have ne_x_1_d1 : x_1 ≠ d1 := own_nea Eb435 (hw _ (List.mem_of_getElem? (i := 95) rfl)) V_443
          obtain ⟨cq445, kq445, q445a, q445b, q445c⟩ := isOf hZ rfl E_437
          obtain ⟨_, _, ⟨T445, L445, k445, n445⟩, -, X445, ⟨Lc445, hQ445, l445, y445, z445⟩, st445⟩ := X435.virtualBack hx (y := (⟨"java/util/ArrayList", "add", "(Ljava/lang/Object;)Z"⟩ : MethodName)) (z := (⟨"java/util/ArrayList", "add", "(Ljava/lang/Object;)Z"⟩ : MethodName)) hown (mvT hZ (hw _ (List.mem_of_getElem? (i := 65) rfl))) (mvT hZ (hw _ (List.mem_of_getElem? (i := 66) rfl))) (notFace_of_selects (args := #[]) (mvT hZ (hw _ (List.mem_of_getElem? (i := 68) rfl)))) (mvT hZ (hw _ (List.mem_of_getElem? (i := 68) rfl))) (mvT hZ (hw _ (List.mem_of_getElem? (i := 67) rfl))) (by decide) (backOf (W := 0) (own_rm31 l Z a0 hw [] al x_0 x_1 ((0 : Int32) + 1) d1 k1 T435.heap n0 Zz444 E_437 fm_440 fs_441 fe_442 ge_al V_443 Ov429 s2429 ne_al_d1 Eb435) hZ (hw _ (List.mem_of_getElem? (i := 69) rfl)) (hw _ (List.mem_of_getElem? (i := 2) rfl)) (by decide) (by decide)) q445a q445c (g := (mkF m 92 #[.val (.int p1), .val (.int p2), .val (.int p3), .val (.int p4), .val (.int p5), .val (.int (4 : Int32)), .val (.int ea), .val (.int eb), .val (.int ec), .val (.int p1), .val (.ref al), .unset, .unset] [(.ref x_1), (.ref al)])) rfl (by rw [hml]; rfl) (Steps.refl _) (argsL := [(.ref x_1)]) (rest := []) (lenOf own_pd6 rfl) rfl (by show 2 * 0 + _ ≤ _; exact Nat.le_of_eq rfl) (hb hby at_92) (fun _ _ => ⟨rfl, rfl, (by decide : 4 + 0 ≤ _), (by decide : 15 + 0 ≤ _)⟩)
          dsimp only [Pt.U, Pt.locs, Pt.cells, Pt.slots] at X445 l445 y445 z445 st445 hQ445
          subst l445 y445 z445
          obtain ⟨rfl, N445q, K445, Ea445, Fa445, Fb445, Fc445, Vd445⟩ := hQ445
          have N445 := Fr.app N435 N445q
          refine own_st (fun t k => st445.trans k) ?_
          show own_G _ _ _ _ _ _ _ (T445.setTop (mkF m 95 #[.val (.int p1), .val (.int p2), .val (.int p3), .val (.int p4), .val (.int p5), .val (.int (4 : Int32)), .val (.int ea), .val (.int eb), .val (.int ec), .val (.int p1), .val (.ref al), .unset, .unset] [(.int (1 : Int32))]))
          have O_446 := O_436.keep K445 (allS ge_al (allS s2429 all0))
          have E_447 := E_437.keep K445
          have X0_448 := X0_438.keep K445
          have XV0_449 := XV0_439.keep K445 (ninS ne_x_0_al (ninS ne_x_0_d1 nin0))
          have X1_450 := Eb435.keep K445
          have XV1_451 := Vb435.keep K445 (ninS ne_x_1_al (ninS ne_x_1_d1 nin0))
          have Zz452 : n0 ≤ _ := Nat.le_trans Zz444 K445.1
          refine own_st (fun t k => XS.pop X445.here hx rfl (hb hby at_95) rfl rfl k) ?_
          show own_G _ _ _ _ _ _ _ (T445.setTop (mkF m 96 #[.val (.int p1), .val (.int p2), .val (.int p3), .val (.int p4), .val (.int p5), .val (.int (4 : Int32)), .val (.int ea), .val (.int eb), .val (.int ec), .val (.int p1), .val (.ref al), .unset, .unset] []))
          refine own_st (fun t k => XS.iload X445.here hx rfl (hb hby at_96) rfl k) ?_
          show own_G _ _ _ _ _ _ _ (T445.setTop (mkF m 98 #[.val (.int p1), .val (.int p2), .val (.int p3), .val (.int p4), .val (.int p5), .val (.int (4 : Int32)), .val (.int ea), .val (.int eb), .val (.int ec), .val (.int p1), .val (.ref al), .unset, .unset] [(.int (4 : Int32))]))
          refine own_st (fun t k => XS.iconst X445.here hx rfl (hb hby at_98) k) ?_
          show own_G _ _ _ _ _ _ _ (T445.setTop (mkF m 99 #[.val (.int p1), .val (.int p2), .val (.int p3), .val (.int p4), .val (.int p5), .val (.int (4 : Int32)), .val (.int ea), .val (.int eb), .val (.int ec), .val (.int p1), .val (.ref al), .unset, .unset] [(.int (2 : Int32)), (.int (4 : Int32))]))
          refine own_st (fun t k => XS.icmpNo X445.here hx rfl (hb hby at_99) rfl (tlt (by decide)).2.2.2 k) ?_
          show own_G _ _ _ _ _ _ _ (T445.setTop (mkF m 102 #[.val (.int p1), .val (.int p2), .val (.int p3), .val (.int p4), .val (.int p5), .val (.int (4 : Int32)), .val (.int ea), .val (.int eb), .val (.int ec), .val (.int p1), .val (.ref al), .unset, .unset] []))
          refine own_st (fun t k => XS.aload X445.here hx rfl (hb hby at_102) rfl rfl k) ?_
          show own_G _ _ _ _ _ _ _ (T445.setTop (mkF m 104 #[.val (.int p1), .val (.int p2), .val (.int p3), .val (.int p4), .val (.int p5), .val (.int (4 : Int32)), .val (.int ea), .val (.int eb), .val (.int ec), .val (.int p1), .val (.ref al), .unset, .unset] [(.ref al)]))
          refine own_st (fun t k => XS.iload X445.here hx rfl (hb hby at_104) rfl k) ?_
          show own_G _ _ _ _ _ _ _ (T445.setTop (mkF m 106 #[.val (.int p1), .val (.int p2), .val (.int p3), .val (.int p4), .val (.int p5), .val (.int (4 : Int32)), .val (.int ea), .val (.int eb), .val (.int ec), .val (.int p1), .val (.ref al), .unset, .unset] [(.int ec), (.ref al)]))
          obtain ⟨_, _, ⟨T453, L453, k453, n453⟩, -, X453, ⟨Lc453, hQ453, l453, y453, z453⟩, st453⟩ := Jvm.LawKit.callS X445 hx (y := (⟨"java/lang/Integer", "valueOf", "(I)Ljava/lang/Integer;"⟩ : MethodName)) hown (mvT hZ (hw _ (List.mem_of_getElem? (i := 58) rfl))) (mvT hZ (hw _ (List.mem_of_getElem? (i := 59) rfl))) (mvT hZ (hw _ (List.mem_of_getElem? (i := 60) rfl))) (mvT hZ (hw _ (List.mem_of_getElem? (i := 61) rfl))) (by decide) (backOf (W := 1) (own_rm7 l Z a0 hw [] ec ca cc T445.heap n0 Zz452 O_446 Sh Sc Bx) hZ (hw _ (List.mem_of_getElem? (i := 61) rfl)) (hw _ (List.mem_of_getElem? (i := 60) rfl)) (by decide) (by decide)) (g := (mkF m 106 #[.val (.int p1), .val (.int p2), .val (.int p3), .val (.int p4), .val (.int p5), .val (.int (4 : Int32)), .val (.int ea), .val (.int eb), .val (.int ec), .val (.int p1), .val (.ref al), .unset, .unset] [(.int ec), (.ref al)])) rfl (by rw [hml]; rfl) (argsL := [(.int ec)]) (rest := [(.ref al)]) (lenOf own_pd5 rfl) rfl (by show 2 * 0 + _ ≤ _; exact Nat.le_of_eq rfl) (hb hby at_106) (fun _ _ => ⟨rfl, rfl, (by decide : 4 + 1 ≤ _), (by decide : 15 + 1 ≤ _)⟩)
          dsimp only [Pt.U, Pt.locs, Pt.cells, Pt.slots] at X453 l453 y453 z453 st453 hQ453
          subst l453 y453 z453
          obtain ⟨x_2, rfl, N453q, K453, Eb453, Vb453⟩ := hQ453
          have N453 := Fr.app N445 N453q
          refine own_st (fun t k => st453 t k) ?_
          show own_G _ _ _ _ _ _ _ (T453.setTop (mkF m 109 #[.val (.int p1), .val (.int p2), .val (.int p3), .val (.int p4), .val (.int p5), .val (.int (4 : Int32)), .val (.int ea), .val (.int eb), .val (.int ec), .val (.int p1), .val (.ref al), .unset, .unset] [(.ref x_2), (.ref al)]))
          have O_454 := O_446.keep K453 all0
          have E_455 := Ea445.keep K453
          have X0_456 := X0_448.keep K453
          have XV0_457 := XV0_449.keep K453 nin0
          have X1_458 := X1_450.keep K453
          have XV1_459 := XV1_451.keep K453 nin0
          have fm_460 := Fa445.keep K453 nin0
          have fs_461 := Fb445.keep K453 nin0
          have fe_462 := Fc445.keep K453 nin0
          have V_463 := Vd445.keep K453 nin0
          have Zz464 : n0 ≤ _ := Nat.le_trans Zz452 K453.1
          have ne_x_2_al : x_2 ≠ al := ne_exa Eb453 E_455 (by decide)
          have ne_x_2_d1 : x_2 ≠ d1 := own_nea Eb453 (hw _ (List.mem_of_getElem? (i := 95) rfl)) V_463
          obtain ⟨cq465, kq465, q465a, q465b, q465c⟩ := isOf hZ rfl E_455
          obtain ⟨_, _, ⟨T465, L465, k465, n465⟩, -, X465, ⟨Lc465, hQ465, l465, y465, z465⟩, st465⟩ := X453.virtualBack hx (y := (⟨"java/util/ArrayList", "add", "(Ljava/lang/Object;)Z"⟩ : MethodName)) (z := (⟨"java/util/ArrayList", "add", "(Ljava/lang/Object;)Z"⟩ : MethodName)) hown (mvT hZ (hw _ (List.mem_of_getElem? (i := 65) rfl))) (mvT hZ (hw _ (List.mem_of_getElem? (i := 66) rfl))) (notFace_of_selects (args := #[]) (mvT hZ (hw _ (List.mem_of_getElem? (i := 68) rfl)))) (mvT hZ (hw _ (List.mem_of_getElem? (i := 68) rfl))) (mvT hZ (hw _ (List.mem_of_getElem? (i := 67) rfl))) (by decide) (backOf (W := 0) (own_rm32 l Z a0 hw [] al x_0 x_1 x_2 (((0 : Int32) + 1) + 1) d1 k1 T453.heap n0 Zz464 E_455 fm_460 fs_461 fe_462 ge_al V_463 Ov429 s2429 ne_al_d1 Eb453) hZ (hw _ (List.mem_of_getElem? (i := 69) rfl)) (hw _ (List.mem_of_getElem? (i := 2) rfl)) (by decide) (by decide)) q465a q465c (g := (mkF m 109 #[.val (.int p1), .val (.int p2), .val (.int p3), .val (.int p4), .val (.int p5), .val (.int (4 : Int32)), .val (.int ea), .val (.int eb), .val (.int ec), .val (.int p1), .val (.ref al), .unset, .unset] [(.ref x_2), (.ref al)])) rfl (by rw [hml]; rfl) (Steps.refl _) (argsL := [(.ref x_2)]) (rest := []) (lenOf own_pd6 rfl) rfl (by show 2 * 0 + _ ≤ _; exact Nat.le_of_eq rfl) (hb hby at_109) (fun _ _ => ⟨rfl, rfl, (by decide : 5 + 0 ≤ _), (by decide : 16 + 0 ≤ _)⟩)
          dsimp only [Pt.U, Pt.locs, Pt.cells, Pt.slots] at X465 l465 y465 z465 st465 hQ465
          subst l465 y465 z465
          obtain ⟨rfl, N465q, K465, Ea465, Fa465, Fb465, Fc465, Vd465⟩ := hQ465
          have N465 := Fr.app N453 N465q
          refine own_st (fun t k => st465.trans k) ?_
          show own_G _ _ _ _ _ _ _ (T465.setTop (mkF m 112 #[.val (.int p1), .val (.int p2), .val (.int p3), .val (.int p4), .val (.int p5), .val (.int (4 : Int32)), .val (.int ea), .val (.int eb), .val (.int ec), .val (.int p1), .val (.ref al), .unset, .unset] [(.int (1 : Int32))]))
          have O_466 := O_454.keep K465 (allS ge_al (allS s2429 all0))
          have E_467 := E_455.keep K465
          have X0_468 := X0_456.keep K465
          have XV0_469 := XV0_457.keep K465 (ninS ne_x_0_al (ninS ne_x_0_d1 nin0))
          have X1_470 := X1_458.keep K465
          have XV1_471 := XV1_459.keep K465 (ninS ne_x_1_al (ninS ne_x_1_d1 nin0))
          have X2_472 := Eb453.keep K465
          have XV2_473 := Vb453.keep K465 (ninS ne_x_2_al (ninS ne_x_2_d1 nin0))
          have Zz474 : n0 ≤ _ := Nat.le_trans Zz464 K465.1
          refine own_st (fun t k => XS.pop X465.here hx rfl (hb hby at_112) rfl rfl k) ?_
          show own_G _ _ _ _ _ _ _ (T465.setTop (mkF m 113 #[.val (.int p1), .val (.int p2), .val (.int p3), .val (.int p4), .val (.int p5), .val (.int (4 : Int32)), .val (.int ea), .val (.int eb), .val (.int ec), .val (.int p1), .val (.ref al), .unset, .unset] []))
          refine own_st (fun t k => XS.iload X465.here hx rfl (hb hby at_113) rfl k) ?_
          show own_G _ _ _ _ _ _ _ (T465.setTop (mkF m 115 #[.val (.int p1), .val (.int p2), .val (.int p3), .val (.int p4), .val (.int p5), .val (.int (4 : Int32)), .val (.int ea), .val (.int eb), .val (.int ec), .val (.int p1), .val (.ref al), .unset, .unset] [(.int (4 : Int32))]))
          refine own_st (fun t k => XS.iconst X465.here hx rfl (hb hby at_115) k) ?_
          show own_G _ _ _ _ _ _ _ (T465.setTop (mkF m 116 #[.val (.int p1), .val (.int p2), .val (.int p3), .val (.int p4), .val (.int p5), .val (.int (4 : Int32)), .val (.int ea), .val (.int eb), .val (.int ec), .val (.int p1), .val (.ref al), .unset, .unset] [(.int (3 : Int32)), (.int (4 : Int32))]))
          refine own_st (fun t k => XS.icmpNo X465.here hx rfl (hb hby at_116) rfl (tlt (by decide)).2.2.2 k) ?_
          show own_G _ _ _ _ _ _ _ (T465.setTop (mkF m 119 #[.val (.int p1), .val (.int p2), .val (.int p3), .val (.int p4), .val (.int p5), .val (.int (4 : Int32)), .val (.int ea), .val (.int eb), .val (.int ec), .val (.int p1), .val (.ref al), .unset, .unset] []))
          refine own_st (fun t k => XS.aload X465.here hx rfl (hb hby at_119) rfl rfl k) ?_
          show own_G _ _ _ _ _ _ _ (T465.setTop (mkF m 121 #[.val (.int p1), .val (.int p2), .val (.int p3), .val (.int p4), .val (.int p5), .val (.int (4 : Int32)), .val (.int ea), .val (.int eb), .val (.int ec), .val (.int p1), .val (.ref al), .unset, .unset] [(.ref al)]))
          refine own_st (fun t k => XS.iload X465.here hx rfl (hb hby at_121) rfl k) ?_
          show own_G _ _ _ _ _ _ _ (T465.setTop (mkF m 123 #[.val (.int p1), .val (.int p2), .val (.int p3), .val (.int p4), .val (.int p5), .val (.int (4 : Int32)), .val (.int ea), .val (.int eb), .val (.int ec), .val (.int p1), .val (.ref al), .unset, .unset] [(.int p1), (.ref al)]))
          obtain ⟨_, _, ⟨T475, L475, k475, n475⟩, -, X475, ⟨Lc475, hQ475, l475, y475, z475⟩, st475⟩ := Jvm.LawKit.callS X465 hx (y := (⟨"java/lang/Integer", "valueOf", "(I)Ljava/lang/Integer;"⟩ : MethodName)) hown (mvT hZ (hw _ (List.mem_of_getElem? (i := 58) rfl))) (mvT hZ (hw _ (List.mem_of_getElem? (i := 59) rfl))) (mvT hZ (hw _ (List.mem_of_getElem? (i := 60) rfl))) (mvT hZ (hw _ (List.mem_of_getElem? (i := 61) rfl))) (by decide) (backOf (W := 1) (own_rm7 l Z a0 hw [] p1 ca cc T465.heap n0 Zz474 O_466 Sh Sc Bx) hZ (hw _ (List.mem_of_getElem? (i := 61) rfl)) (hw _ (List.mem_of_getElem? (i := 60) rfl)) (by decide) (by decide)) (g := (mkF m 123 #[.val (.int p1), .val (.int p2), .val (.int p3), .val (.int p4), .val (.int p5), .val (.int (4 : Int32)), .val (.int ea), .val (.int eb), .val (.int ec), .val (.int p1), .val (.ref al), .unset, .unset] [(.int p1), (.ref al)])) rfl (by rw [hml]; rfl) (argsL := [(.int p1)]) (rest := [(.ref al)]) (lenOf own_pd5 rfl) rfl (by show 2 * 0 + _ ≤ _; exact Nat.le_of_eq rfl) (hb hby at_123) (fun _ _ => ⟨rfl, rfl, (by decide : 5 + 1 ≤ _), (by decide : 16 + 1 ≤ _)⟩)
          dsimp only [Pt.U, Pt.locs, Pt.cells, Pt.slots] at X475 l475 y475 z475 st475 hQ475
          subst l475 y475 z475
          obtain ⟨x_3, rfl, N475q, K475, Eb475, Vb475⟩ := hQ475
          have N475 := Fr.app N465 N475q
          refine own_st (fun t k => st475 t k) ?_
          show own_G _ _ _ _ _ _ _ (T475.setTop (mkF m 126 #[.val (.int p1), .val (.int p2), .val (.int p3), .val (.int p4), .val (.int p5), .val (.int (4 : Int32)), .val (.int ea), .val (.int eb), .val (.int ec), .val (.int p1), .val (.ref al), .unset, .unset] [(.ref x_3), (.ref al)]))
          have O_476 := O_466.keep K475 all0
          have E_477 := Ea465.keep K475
          have X0_478 := X0_468.keep K475
          have XV0_479 := XV0_469.keep K475 nin0
          have X1_480 := X1_470.keep K475
          have XV1_481 := XV1_471.keep K475 nin0
          have X2_482 := X2_472.keep K475
          have XV2_483 := XV2_473.keep K475 nin0
          have fm_484 := Fa465.keep K475 nin0
          have fs_485 := Fb465.keep K475 nin0
          have fe_486 := Fc465.keep K475 nin0
          have V_487 := Vd465.keep K475 nin0
          have Zz488 : n0 ≤ _ := Nat.le_trans Zz474 K475.1
          have ne_x_3_al : x_3 ≠ al := ne_exa Eb475 E_477 (by decide)
          have ne_x_3_d1 : x_3 ≠ d1 := own_nea Eb475 (hw _ (List.mem_of_getElem? (i := 95) rfl)) V_487
          obtain ⟨cq489, kq489, q489a, q489b, q489c⟩ := isOf hZ rfl E_477
          obtain ⟨_, _, ⟨T489, L489, k489, n489⟩, -, X489, ⟨Lc489, hQ489, l489, y489, z489⟩, st489⟩ := X475.virtualBack hx (y := (⟨"java/util/ArrayList", "add", "(Ljava/lang/Object;)Z"⟩ : MethodName)) (z := (⟨"java/util/ArrayList", "add", "(Ljava/lang/Object;)Z"⟩ : MethodName)) hown (mvT hZ (hw _ (List.mem_of_getElem? (i := 65) rfl))) (mvT hZ (hw _ (List.mem_of_getElem? (i := 66) rfl))) (notFace_of_selects (args := #[]) (mvT hZ (hw _ (List.mem_of_getElem? (i := 68) rfl)))) (mvT hZ (hw _ (List.mem_of_getElem? (i := 68) rfl))) (mvT hZ (hw _ (List.mem_of_getElem? (i := 67) rfl))) (by decide) (backOf (W := 0) (own_rm33 l Z a0 hw [] al x_0 x_1 x_2 x_3 ((((0 : Int32) + 1) + 1) + 1) d1 k1 T475.heap n0 Zz488 E_477 fm_484 fs_485 fe_486 ge_al V_487 Ov429 s2429 ne_al_d1 Eb475) hZ (hw _ (List.mem_of_getElem? (i := 69) rfl)) (hw _ (List.mem_of_getElem? (i := 2) rfl)) (by decide) (by decide)) q489a q489c (g := (mkF m 126 #[.val (.int p1), .val (.int p2), .val (.int p3), .val (.int p4), .val (.int p5), .val (.int (4 : Int32)), .val (.int ea), .val (.int eb), .val (.int ec), .val (.int p1), .val (.ref al), .unset, .unset] [(.ref x_3), (.ref al)])) rfl (by rw [hml]; rfl) (Steps.refl _) (argsL := [(.ref x_3)]) (rest := []) (lenOf own_pd6 rfl) rfl (by show 2 * 0 + _ ≤ _; exact Nat.le_of_eq rfl) (hb hby at_126) (fun _ _ => ⟨rfl, rfl, (by decide : 6 + 0 ≤ _), (by decide : 17 + 0 ≤ _)⟩)
          dsimp only [Pt.U, Pt.locs, Pt.cells, Pt.slots] at X489 l489 y489 z489 st489 hQ489
          subst l489 y489 z489
          obtain ⟨rfl, N489q, K489, Ea489, Fa489, Fb489, Fc489, Vd489⟩ := hQ489
          have N489 := Fr.app N475 N489q
          refine own_st (fun t k => st489.trans k) ?_
          show own_G _ _ _ _ _ _ _ (T489.setTop (mkF m 129 #[.val (.int p1), .val (.int p2), .val (.int p3), .val (.int p4), .val (.int p5), .val (.int (4 : Int32)), .val (.int ea), .val (.int eb), .val (.int ec), .val (.int p1), .val (.ref al), .unset, .unset] [(.int (1 : Int32))]))
          have O_490 := O_476.keep K489 (allS ge_al (allS s2429 all0))
          have E_491 := E_477.keep K489
          have X0_492 := X0_478.keep K489
          have XV0_493 := XV0_479.keep K489 (ninS ne_x_0_al (ninS ne_x_0_d1 nin0))
          have X1_494 := X1_480.keep K489
          have XV1_495 := XV1_481.keep K489 (ninS ne_x_1_al (ninS ne_x_1_d1 nin0))
          have X2_496 := X2_482.keep K489
          have XV2_497 := XV2_483.keep K489 (ninS ne_x_2_al (ninS ne_x_2_d1 nin0))
          have X3_498 := Eb475.keep K489
          have XV3_499 := Vb475.keep K489 (ninS ne_x_3_al (ninS ne_x_3_d1 nin0))
          have Zz500 : n0 ≤ _ := Nat.le_trans Zz488 K489.1
          refine own_st (fun t k => XS.pop X489.here hx rfl (hb hby at_129) rfl rfl k) ?_
          show own_G _ _ _ _ _ _ _ (T489.setTop (mkF m 130 #[.val (.int p1), .val (.int p2), .val (.int p3), .val (.int p4), .val (.int p5), .val (.int (4 : Int32)), .val (.int ea), .val (.int eb), .val (.int ec), .val (.int p1), .val (.ref al), .unset, .unset] []))
          refine own_st (fun t k => XS.iload X489.here hx rfl (hb hby at_130) rfl k) ?_
          show own_G _ _ _ _ _ _ _ (T489.setTop (mkF m 132 #[.val (.int p1), .val (.int p2), .val (.int p3), .val (.int p4), .val (.int p5), .val (.int (4 : Int32)), .val (.int ea), .val (.int eb), .val (.int ec), .val (.int p1), .val (.ref al), .unset, .unset] [(.int (4 : Int32))]))
          refine own_st (fun t k => XS.iconst X489.here hx rfl (hb hby at_132) k) ?_
          show own_G _ _ _ _ _ _ _ (T489.setTop (mkF m 133 #[.val (.int p1), .val (.int p2), .val (.int p3), .val (.int p4), .val (.int p5), .val (.int (4 : Int32)), .val (.int ea), .val (.int eb), .val (.int ec), .val (.int p1), .val (.ref al), .unset, .unset] [(.int (2 : Int32)), (.int (4 : Int32))]))
          refine own_st (fun t k => XS.icmpYes X489.here hx rfl (pc0 := 133) (pc' := 152) rfl (hb hby at_133) rfl (feq (by decide)).2 (by decide) (by decide) k) ?_
          show own_G _ _ _ _ _ _ _ (T489.setTop (mkF m 152 #[.val (.int p1), .val (.int p2), .val (.int p3), .val (.int p4), .val (.int p5), .val (.int (4 : Int32)), .val (.int ea), .val (.int eb), .val (.int ec), .val (.int p1), .val (.ref al), .unset, .unset] []))
          refine own_st (fun t k => XS.iconst X489.here hx rfl (hb hby at_152) k) ?_
          show own_G _ _ _ _ _ _ _ (T489.setTop (mkF m 153 #[.val (.int p1), .val (.int p2), .val (.int p3), .val (.int p4), .val (.int p5), .val (.int (4 : Int32)), .val (.int ea), .val (.int eb), .val (.int ec), .val (.int p1), .val (.ref al), .unset, .unset] [(.int (0 : Int32))]))
          refine own_st (fun t k => XS.istore X489.here hx rfl (hb hby at_153) rfl (l' := #[.val (.int p1), .val (.int p2), .val (.int p3), .val (.int p4), .val (.int p5), .val (.int (4 : Int32)), .val (.int ea), .val (.int eb), .val (.int ec), .val (.int p1), .val (.ref al), .val (.int (0 : Int32)), .unset]) rfl k) ?_
          show own_G _ _ _ _ _ _ _ (T489.setTop (mkF m 155 #[.val (.int p1), .val (.int p2), .val (.int p3), .val (.int p4), .val (.int p5), .val (.int (4 : Int32)), .val (.int ea), .val (.int eb), .val (.int ec), .val (.int p1), .val (.ref al), .val (.int (0 : Int32)), .unset] []))
          obtain ⟨T501, h501, X501, e501, E501, A501, D501, -, st501⟩ := newO X489 hx hZ hown (hw _ (List.mem_of_getElem? (i := 26) rfl)) (hw _ (List.mem_of_getElem? (i := 27) rfl)) (hw _ (List.mem_of_getElem? (i := 28) rfl)) rfl (g := (mkF m 155 #[.val (.int p1), .val (.int p2), .val (.int p3), .val (.int p4), .val (.int p5), .val (.int (4 : Int32)), .val (.int ea), .val (.int eb), .val (.int ec), .val (.int p1), .val (.ref al), .val (.int (0 : Int32)), .unset] [])) rfl (hb hby at_155) (by decide) (by decide)
          obtain ⟨ch, g501⟩ : ∃ z, z = T489.heap.size := ⟨_, rfl⟩
          rw [← g501] at A501 D501 st501
          refine own_st (fun t k => st501 t k) ?_
          show own_G _ _ _ _ _ _ _ (T501.setTop (mkF m 158 #[.val (.int p1), .val (.int p2), .val (.int p3), .val (.int p4), .val (.int p5), .val (.int (4 : Int32)), .val (.int ea), .val (.int eb), .val (.int ec), .val (.int p1), .val (.ref al), .val (.int (0 : Int32)), .unset] [(.ref ch)]))
          have ge_ch : n0 ≤ ch := Nat.le_trans Zz500 (Nat.le_of_eq g501.symm)
          have ne_al_ch : al ≠ ch := Nat.ne_of_lt (Nat.lt_of_lt_of_le Ea489.lt (Nat.le_of_eq g501.symm))
          have ne_x_0_ch : x_0 ≠ ch := Nat.ne_of_lt (Nat.lt_of_lt_of_le X0_492.lt (Nat.le_of_eq g501.symm))
          have ne_x_1_ch : x_1 ≠ ch := Nat.ne_of_lt (Nat.lt_of_lt_of_le X1_494.lt (Nat.le_of_eq g501.symm))
          have ne_x_2_ch : x_2 ≠ ch := Nat.ne_of_lt (Nat.lt_of_lt_of_le X2_496.lt (Nat.le_of_eq g501.symm))
          have ne_x_3_ch : x_3 ≠ ch := Nat.ne_of_lt (Nat.lt_of_lt_of_le X3_498.lt (Nat.le_of_eq g501.symm))
          have ne_d1_ch : d1 ≠ ch := Nat.ne_of_lt (Nat.lt_of_lt_of_le Vd489.lt (Nat.le_of_eq g501.symm))
          have O_502 := O_490.ext E501
          have E_503 := Ea489.ext E501
          have X0_504 := X0_492.ext E501
          have XV0_505 := XV0_493.ext E501
          have X1_506 := X1_494.ext E501
          have XV1_507 := XV1_495.ext E501
          have X2_508 := X2_496.ext E501
          have XV2_509 := XV2_497.ext E501
          have X3_510 := X3_498.ext E501
          have XV3_511 := XV3_499.ext E501
          have fm_512 := Fa489.ext E501
          have fs_513 := Fb489.ext E501
          have fe_514 := Fc489.ext E501
          have V_515 := Vd489.ext E501
          have Zz516 : n0 ≤ h501.size := Nat.le_trans Zz500 E501.1
          have R1 : Fld Z h501 ch "com/example/strigine/strigine/Roles$Chain" "roles" "Ljava/util/List;" .null := D501 (Or.inr (hw _ (List.mem_of_getElem? (i := 39) rfl))) (ty := .object "java/util/List") (by decide)
          have R2 : Fld Z h501 ch "com/example/strigine/strigine/Roles$Chain" "sup" "I" (.int 0) := D501 (Or.inr (hw _ (List.mem_of_getElem? (i := 41) rfl))) (ty := .int) (by decide)
          refine own_st (fun t k => XS.dup X501.here hx rfl (hb hby at_158) rfl rfl k) ?_
          show own_G _ _ _ _ _ _ _ (T501.setTop (mkF m 159 #[.val (.int p1), .val (.int p2), .val (.int p3), .val (.int p4), .val (.int p5), .val (.int (4 : Int32)), .val (.int ea), .val (.int eb), .val (.int ec), .val (.int p1), .val (.ref al), .val (.int (0 : Int32)), .unset] [(.ref ch), (.ref ch)]))
          refine own_st (fun t k => XS.aload X501.here hx rfl (hb hby at_159) rfl rfl k) ?_
          show own_G _ _ _ _ _ _ _ (T501.setTop (mkF m 161 #[.val (.int p1), .val (.int p2), .val (.int p3), .val (.int p4), .val (.int p5), .val (.int (4 : Int32)), .val (.int ea), .val (.int eb), .val (.int ec), .val (.int p1), .val (.ref al), .val (.int (0 : Int32)), .unset] [(.ref al), (.ref ch), (.ref ch)]))
          refine own_st (fun t k => XS.iloadN X501.here hx rfl (hb hby at_161) rfl k) ?_
          show own_G _ _ _ _ _ _ _ (T501.setTop (mkF m 162 #[.val (.int p1), .val (.int p2), .val (.int p3), .val (.int p4), .val (.int p5), .val (.int (4 : Int32)), .val (.int ea), .val (.int eb), .val (.int ec), .val (.int p1), .val (.ref al), .val (.int (0 : Int32)), .unset] [(.int p1), (.ref al), (.ref ch), (.ref ch)]))
          obtain ⟨_, _, ⟨T517, L517, k517, n517⟩, -, X517, ⟨Lc517, hQ517, l517, y517, z517⟩, st517⟩ := X501.specialBack hx (y := (⟨"com/example/strigine/strigine/Roles$Chain", "<init>", "(Ljava/util/List;I)V"⟩ : MethodName)) rfl hown (mvT hZ (hw _ (List.mem_of_getElem? (i := 29) rfl))) (mvT hZ (hw _ (List.mem_of_getElem? (i := 30) rfl))) (mvT hZ (hw _ (List.mem_of_getElem? (i := 31) rfl))) (by decide) (backOf (W := 1) (own_rm40 l Z a0 hw [] ch al p1 h501 n0 Zz516 A501 R1 R2 ge_ch) hZ (hw _ (List.mem_of_getElem? (i := 31) rfl)) (hw _ (List.mem_of_getElem? (i := 28) rfl)) (by decide) (by decide)) (g := (mkF m 162 #[.val (.int p1), .val (.int p2), .val (.int p3), .val (.int p4), .val (.int p5), .val (.int (4 : Int32)), .val (.int ea), .val (.int eb), .val (.int ec), .val (.int p1), .val (.ref al), .val (.int (0 : Int32)), .unset] [(.int p1), (.ref al), (.ref ch), (.ref ch)])) rfl (by rw [hml]; rfl) (Steps.refl _) (a := ch) (argsL := [(.ref al), (.int p1)]) (rest := [(.ref ch)]) (lenOf own_pd2 rfl) rfl (by show 2 * 0 + _ ≤ _; exact Nat.le_of_eq rfl) (hb hby at_162) (fun _ _ => ⟨rfl, e501, (by decide : 7 + 0 ≤ _), (by decide : 19 + 0 ≤ _)⟩)
          dsimp only [Pt.U, Pt.locs, Pt.cells, Pt.slots] at X517 l517 y517 z517 st517 hQ517
          subst l517 y517 z517
          obtain ⟨rfl, N517q, K517, Ec517, Fr517, Fu517⟩ := hQ517
          have N517 := Fr.app N489 N517q
          refine own_st (fun t k => st517.trans k) ?_
          show own_G _ _ _ _ _ _ _ (T517.setTop (mkF m 165 #[.val (.int p1), .val (.int p2), .val (.int p3), .val (.int p4), .val (.int p5), .val (.int (4 : Int32)), .val (.int ea), .val (.int eb), .val (.int ec), .val (.int p1), .val (.ref al), .val (.int (0 : Int32)), .unset] [(.ref ch)]))
          have O_518 := O_502.keep K517 (allS ge_ch all0)
          have E_519 := E_503.keep K517
          have X0_520 := X0_504.keep K517
          have XV0_521 := XV0_505.keep K517 (ninS ne_x_0_ch nin0)
          have X1_522 := X1_506.keep K517
          have XV1_523 := XV1_507.keep K517 (ninS ne_x_1_ch nin0)
          have X2_524 := X2_508.keep K517
          have XV2_525 := XV2_509.keep K517 (ninS ne_x_2_ch nin0)
          have X3_526 := X3_510.keep K517
          have XV3_527 := XV3_511.keep K517 (ninS ne_x_3_ch nin0)
          have fm_528 := fm_512.keep K517 (ninS ne_al_ch nin0)
          have fs_529 := fs_513.keep K517 (ninS ne_al_ch nin0)
          have fe_530 := fe_514.keep K517 (ninS ne_al_ch nin0)
          have V_531 := V_515.keep K517 (ninS ne_d1_ch nin0)
          have Zz532 : n0 ≤ _ := Nat.le_trans Zz516 K517.1
          obtain ⟨cq533, kq533, q533a, q533b, q533c⟩ := isOf hZ rfl Ec517
          obtain ⟨_, _, ⟨T533, L533, k533, n533⟩, -, X533, ⟨Lc533, hQ533, l533, y533, z533⟩, st533⟩ := X517.virtualBack hx (y := (⟨"com/example/strigine/strigine/Roles$Chain", "isTransitivity", "()Z"⟩ : MethodName)) (z := (⟨"com/example/strigine/strigine/Roles$Chain", "isTransitivity", "()Z"⟩ : MethodName)) hown (mvT hZ (hw _ (List.mem_of_getElem? (i := 42) rfl))) (mvT hZ (hw _ (List.mem_of_getElem? (i := 43) rfl))) (notFace_of_selects (args := #[]) (mvT hZ (hw _ (List.mem_of_getElem? (i := 45) rfl)))) (mvT hZ (hw _ (List.mem_of_getElem? (i := 45) rfl))) (mvT hZ (hw _ (List.mem_of_getElem? (i := 44) rfl))) (by decide) (backOf (W := 0) (own_rm41 l Z a0 hw [] ch al p1 (4 : Int32) T517.heap n0 Zz532 Fr517 Fu517 E_519 fs_529 (by decide)) hZ (hw _ (List.mem_of_getElem? (i := 46) rfl)) (hw _ (List.mem_of_getElem? (i := 28) rfl)) (by decide) (by decide)) q533a q533c (g := (mkF m 165 #[.val (.int p1), .val (.int p2), .val (.int p3), .val (.int p4), .val (.int p5), .val (.int (4 : Int32)), .val (.int ea), .val (.int eb), .val (.int ec), .val (.int p1), .val (.ref al), .val (.int (0 : Int32)), .unset] [(.ref ch)])) rfl (by rw [hml]; rfl) (Steps.refl _) (argsL := []) (rest := []) (lenOf own_pd3 rfl) rfl (by show 2 * 0 + _ ≤ _; exact Nat.le_of_eq rfl) (hb hby at_165) (fun _ _ => ⟨rfl, rfl, (by decide : 7 + 0 ≤ _), (by decide : 19 + 0 ≤ _)⟩)
          dsimp only [Pt.U, Pt.locs, Pt.cells, Pt.slots] at X533 l533 y533 z533 st533 hQ533
          subst l533 y533 z533
          obtain ⟨rfl, N533q, e533⟩ := hQ533
          have N533 := Fr.app N517 N533q
          refine own_st (fun t k => st533.trans k) ?_
          show own_G _ _ _ _ _ _ _ (T533.setTop (mkF m 168 #[.val (.int p1), .val (.int p2), .val (.int p3), .val (.int p4), .val (.int p5), .val (.int (4 : Int32)), .val (.int ea), .val (.int eb), .val (.int ec), .val (.int p1), .val (.ref al), .val (.int (0 : Int32)), .unset] [(.int (0 : Int32))]))
          refine own_st (fun t k => XS.istore X533.here hx rfl (hb hby at_168) rfl (l' := #[.val (.int p1), .val (.int p2), .val (.int p3), .val (.int p4), .val (.int p5), .val (.int (4 : Int32)), .val (.int ea), .val (.int eb), .val (.int ec), .val (.int p1), .val (.ref al), .val (.int (0 : Int32)), .val (.int (0 : Int32))]) rfl k) ?_
          show own_G _ _ _ _ _ _ _ (T533.setTop (mkF m 170 #[.val (.int p1), .val (.int p2), .val (.int p3), .val (.int p4), .val (.int p5), .val (.int (4 : Int32)), .val (.int ea), .val (.int eb), .val (.int ec), .val (.int p1), .val (.ref al), .val (.int (0 : Int32)), .val (.int (0 : Int32))] []))
          refine own_st (fun t k => XS.iload X533.here hx rfl (hb hby at_170) rfl k) ?_
          show own_G _ _ _ _ _ _ _ (T533.setTop (mkF m 172 #[.val (.int p1), .val (.int p2), .val (.int p3), .val (.int p4), .val (.int p5), .val (.int (4 : Int32)), .val (.int ea), .val (.int eb), .val (.int ec), .val (.int p1), .val (.ref al), .val (.int (0 : Int32)), .val (.int (0 : Int32))] [(.int (0 : Int32))]))
          refine own_st (fun t k => XS.iload X533.here hx rfl (hb hby at_172) rfl k) ?_
          show own_G _ _ _ _ _ _ _ (T533.setTop (mkF m 174 #[.val (.int p1), .val (.int p2), .val (.int p3), .val (.int p4), .val (.int p5), .val (.int (4 : Int32)), .val (.int ea), .val (.int eb), .val (.int ec), .val (.int p1), .val (.ref al), .val (.int (0 : Int32)), .val (.int (0 : Int32))] [(.int (0 : Int32)), (.int (0 : Int32))]))
          refine own_st (fun t k => XS.icmpNo X533.here hx rfl (hb hby at_174) rfl (teq rfl).2 k) ?_
          show own_G _ _ _ _ _ _ _ (T533.setTop (mkF m 177 #[.val (.int p1), .val (.int p2), .val (.int p3), .val (.int p4), .val (.int p5), .val (.int (4 : Int32)), .val (.int ea), .val (.int eb), .val (.int ec), .val (.int p1), .val (.ref al), .val (.int (0 : Int32)), .val (.int (0 : Int32))] []))
          refine own_st (fun t k => XS.iconst X533.here hx rfl (hb hby at_177) k) ?_
          show own_G _ _ _ _ _ _ _ (T533.setTop (mkF m 178 #[.val (.int p1), .val (.int p2), .val (.int p3), .val (.int p4), .val (.int p5), .val (.int (4 : Int32)), .val (.int ea), .val (.int eb), .val (.int ec), .val (.int p1), .val (.ref al), .val (.int (0 : Int32)), .val (.int (0 : Int32))] [(.int (1 : Int32))]))
          refine own_st (fun t k => XS.goto X533.here hx rfl (pc0 := 178) (pc' := 182) rfl (hb hby at_178) (by decide) (by decide) k) ?_
          show own_G _ _ _ _ _ _ _ (T533.setTop (mkF m 182 #[.val (.int p1), .val (.int p2), .val (.int p3), .val (.int p4), .val (.int p5), .val (.int (4 : Int32)), .val (.int ea), .val (.int eb), .val (.int ec), .val (.int p1), .val (.ref al), .val (.int (0 : Int32)), .val (.int (0 : Int32))] [(.int (1 : Int32))]))
          exact own_retN (t := .boolean) (by simp) X533 hx Bd.returns (BodyLoose.notSynchronized Bd) (hb hby at_182) (by decide) (by decide) ⟨rfl, N533⟩
      by_cases qJ49 : (p5 &&& (32 : Int32)) = (0 : Int32)
      · refine own_st (fun t k => XS.ifYes X0.here hx rfl (pc0 := 41) (pc' := 48) rfl (hb hby at_41) rfl ((if0 _ _).trans (teq qJ49).1) (by decide) (by decide) k) ?_
        show own_G _ _ _ _ _ _ _ (s₁.setTop (mkF m 48 #[.val (.int p1), .val (.int p2), .val (.int p3), .val (.int p4), .val (.int p5), .val (.int nn), .val (.int ea), .val (.int eb), .unset, .unset, .unset, .unset, .unset] []))
        refine own_st (fun t k => XS.iloadN X0.here hx rfl (hb hby at_48) rfl k) ?_
        show own_G _ _ _ _ _ _ _ (s₁.setTop (mkF m 49 #[.val (.int p1), .val (.int p2), .val (.int p3), .val (.int p4), .val (.int p5), .val (.int nn), .val (.int ea), .val (.int eb), .unset, .unset, .unset, .unset, .unset] [(.int p4)]))
        exact J49 _
      · refine own_st (fun t k => XS.ifNo X0.here hx rfl (hb hby at_41) rfl ((if0 _ _).trans (feq qJ49).1) k) ?_
        show own_G _ _ _ _ _ _ _ (s₁.setTop (mkF m 44 #[.val (.int p1), .val (.int p2), .val (.int p3), .val (.int p4), .val (.int p5), .val (.int nn), .val (.int ea), .val (.int eb), .unset, .unset, .unset, .unset, .unset] []))
        refine own_st (fun t k => XS.iloadN X0.here hx rfl (hb hby at_44) rfl k) ?_
        show own_G _ _ _ _ _ _ _ (s₁.setTop (mkF m 45 #[.val (.int p1), .val (.int p2), .val (.int p3), .val (.int p4), .val (.int p5), .val (.int nn), .val (.int ea), .val (.int eb), .unset, .unset, .unset, .unset, .unset] [(.int p1)]))
        refine own_st (fun t k => XS.goto X0.here hx rfl (pc0 := 45) (pc' := 49) rfl (hb hby at_45) (by decide) (by decide) k) ?_
        show own_G _ _ _ _ _ _ _ (s₁.setTop (mkF m 49 #[.val (.int p1), .val (.int p2), .val (.int p3), .val (.int p4), .val (.int p5), .val (.int nn), .val (.int ea), .val (.int eb), .unset, .unset, .unset, .unset, .unset] [(.int p1)]))
        exact J49 _
    by_cases qJ34 : (p5 &&& (2 : Int32)) = (0 : Int32)
    · refine own_st (fun t k => XS.ifYes X0.here hx rfl (pc0 := 26) (pc' := 33) rfl (hb hby at_26) rfl ((if0 _ _).trans (teq qJ34).1) (by decide) (by decide) k) ?_
      show own_G _ _ _ _ _ _ _ (s₁.setTop (mkF m 33 #[.val (.int p1), .val (.int p2), .val (.int p3), .val (.int p4), .val (.int p5), .val (.int nn), .val (.int ea), .unset, .unset, .unset, .unset, .unset, .unset] []))
      refine own_st (fun t k => XS.iloadN X0.here hx rfl (hb hby at_33) rfl k) ?_
      show own_G _ _ _ _ _ _ _ (s₁.setTop (mkF m 34 #[.val (.int p1), .val (.int p2), .val (.int p3), .val (.int p4), .val (.int p5), .val (.int nn), .val (.int ea), .unset, .unset, .unset, .unset, .unset, .unset] [(.int p3)]))
      exact J34 _
    · refine own_st (fun t k => XS.ifNo X0.here hx rfl (hb hby at_26) rfl ((if0 _ _).trans (feq qJ34).1) k) ?_
      show own_G _ _ _ _ _ _ _ (s₁.setTop (mkF m 29 #[.val (.int p1), .val (.int p2), .val (.int p3), .val (.int p4), .val (.int p5), .val (.int nn), .val (.int ea), .unset, .unset, .unset, .unset, .unset, .unset] []))
      refine own_st (fun t k => XS.iloadN X0.here hx rfl (hb hby at_29) rfl k) ?_
      show own_G _ _ _ _ _ _ _ (s₁.setTop (mkF m 30 #[.val (.int p1), .val (.int p2), .val (.int p3), .val (.int p4), .val (.int p5), .val (.int nn), .val (.int ea), .unset, .unset, .unset, .unset, .unset, .unset] [(.int p1)]))
      refine own_st (fun t k => XS.goto X0.here hx rfl (pc0 := 30) (pc' := 34) rfl (hb hby at_30) (by decide) (by decide) k) ?_
      show own_G _ _ _ _ _ _ _ (s₁.setTop (mkF m 34 #[.val (.int p1), .val (.int p2), .val (.int p3), .val (.int p4), .val (.int p5), .val (.int nn), .val (.int ea), .unset, .unset, .unset, .unset, .unset, .unset] [(.int p1)]))
      exact J34 _
  refine own_st (fun t k => XS.iload X0.here hx rfl (hb hby at_8) rfl k) ?_
  show own_G _ _ _ _ _ _ _ (s₁.setTop (mkF m 10 #[.val (.int p1), .val (.int p2), .val (.int p3), .val (.int p4), .val (.int p5), .val (.int nn), .unset, .unset, .unset, .unset, .unset, .unset, .unset] [(.int p5)]))
  refine own_st (fun t k => XS.iconst X0.here hx rfl (hb hby at_10) k) ?_
  show own_G _ _ _ _ _ _ _ (s₁.setTop (mkF m 11 #[.val (.int p1), .val (.int p2), .val (.int p3), .val (.int p4), .val (.int p5), .val (.int nn), .unset, .unset, .unset, .unset, .unset, .unset, .unset] [(.int (1 : Int32)), (.int p5)]))
  refine own_st (fun t k => XS.iand X0.here hx rfl (hb hby at_11) rfl k) ?_
  show own_G _ _ _ _ _ _ _ (s₁.setTop (mkF m 12 #[.val (.int p1), .val (.int p2), .val (.int p3), .val (.int p4), .val (.int p5), .val (.int nn), .unset, .unset, .unset, .unset, .unset, .unset, .unset] [(.int (p5 &&& (1 : Int32)))]))
  by_cases qJ20 : (p5 &&& (1 : Int32)) = (0 : Int32)
  · refine own_st (fun t k => XS.ifYes X0.here hx rfl (pc0 := 12) (pc' := 19) rfl (hb hby at_12) rfl ((if0 _ _).trans (teq qJ20).1) (by decide) (by decide) k) ?_
    show own_G _ _ _ _ _ _ _ (s₁.setTop (mkF m 19 #[.val (.int p1), .val (.int p2), .val (.int p3), .val (.int p4), .val (.int p5), .val (.int nn), .unset, .unset, .unset, .unset, .unset, .unset, .unset] []))
    refine own_st (fun t k => XS.iloadN X0.here hx rfl (hb hby at_19) rfl k) ?_
    show own_G _ _ _ _ _ _ _ (s₁.setTop (mkF m 20 #[.val (.int p1), .val (.int p2), .val (.int p3), .val (.int p4), .val (.int p5), .val (.int nn), .unset, .unset, .unset, .unset, .unset, .unset, .unset] [(.int p2)]))
    exact J20 _
  · refine own_st (fun t k => XS.ifNo X0.here hx rfl (hb hby at_12) rfl ((if0 _ _).trans (feq qJ20).1) k) ?_
    show own_G _ _ _ _ _ _ _ (s₁.setTop (mkF m 15 #[.val (.int p1), .val (.int p2), .val (.int p3), .val (.int p4), .val (.int p5), .val (.int nn), .unset, .unset, .unset, .unset, .unset, .unset, .unset] []))
    refine own_st (fun t k => XS.iloadN X0.here hx rfl (hb hby at_15) rfl k) ?_
    show own_G _ _ _ _ _ _ _ (s₁.setTop (mkF m 16 #[.val (.int p1), .val (.int p2), .val (.int p3), .val (.int p4), .val (.int p5), .val (.int nn), .unset, .unset, .unset, .unset, .unset, .unset, .unset] [(.int p1)]))
    refine own_st (fun t k => XS.goto X0.here hx rfl (pc0 := 16) (pc' := 20) rfl (hb hby at_16) (by decide) (by decide) k) ?_
    show own_G _ _ _ _ _ _ _ (s₁.setTop (mkF m 20 #[.val (.int p1), .val (.int p2), .val (.int p3), .val (.int p4), .val (.int p5), .val (.int nn), .unset, .unset, .unset, .unset, .unset, .unset, .unset] [(.int p1)]))
    exact J20 _
set_option maxRecDepth 65536 in
set_option maxHeartbeats 40000000 in
theorem own_comes {Post : Tables → Env → Array Value → State → Outcome → State → Prop} (hpost : ∀ tb e args s v u, (limb_1_1.after args s (.returned v) u = true ∧ limb_1_2.after args s (.returned v) u = true ∧ True) → FrameEnd s (.returned v) u (Jvm.fieldLocs frame_1_writes args s ++ Jvm.arrayLocs frame_1_arrays args s ++ Jvm.staticLocs frame_1_statics s) 24 128 → Post tb e args s (.returned v) u) :
    ArmFor flags0 classFile x code maxLocals ret World_1 tables_1 room_1 Calls_1 rest_1 Pre_1 Post := by
  intro l hfl _ _ p e ha hc hk s m args below hf hA hF happ hP
  obtain ⟨hcalls, hrest, hpre⟩ := hP
  obtain ⟨-, -, -, hnamed, -, -, -, hat⟩ := (Spec.applies_iff hf).mp happ
  obtain ⟨hg, hn⟩ := and_e (Cond.before_iff.mp (show (Jvm.Cond.and given_1 narrow_1).before args s = true from hpre))
  obtain ⟨gc, ga0⟩ := and_e hg
  obtain ⟨gi0, ga1⟩ := and_e ga0
  obtain ⟨gi1, ga2⟩ := and_e ga1
  obtain ⟨gi2, ga3⟩ := and_e ga2
  obtain ⟨gi3, ga4⟩ := and_e ga3
  obtain ⟨w0, w1, w2, w3, w4, rfl⟩ : ∃ w0 w1 w2 w3 w4 : Value, args = #[w0, w1, w2, w3, w4] := by
    have hs : args.size = 5 := by simpa [Cond.value, given_1] using gc
    obtain ⟨L⟩ := args
    match L, hs with
    | [w0, w1, w2, w3, w4], _ => exact ⟨w0, w1, w2, w3, w4, rfl⟩
  have hw := fun d (hd : d ∈ tables_1) => atoms_spec (ws := Jvm.Cond.code x code maxLocals ret :: tables_1) hat d (List.mem_cons_of_mem _ hd)
  have hfit : Fit s := fun {y c} hc i hi => by
    obtain ⟨ha, rfl⟩ := Array.getElem?_eq_some_iff.mp hc
    have q := List.all_eq_true.mp ((Array.all_eq_true_iff_forall_mem.mp hF) _ (Array.getElem_mem ha)) i (List.mem_range.mpr hi)
    simpa [Array.getElem?_eq_getElem hi] using q
  obtain ⟨hsets, hown0⟩ := atoms_of _ (rest_1_c_eq ▸ (show rest_1_c.before _ s = true from hrest))
  obtain ⟨i0, ei0⟩ := is_v gi0
  obtain rfl : w0 = (.int i0) := Option.some.inj ei0
  obtain ⟨i1, ei1⟩ := is_v gi1
  obtain rfl : w1 = (.int i1) := Option.some.inj ei1
  obtain ⟨i2, ei2⟩ := is_v gi2
  obtain rfl : w2 = (.int i2) := Option.some.inj ei2
  obtain ⟨i3, ei3⟩ := is_v gi3
  obtain rfl : w3 = (.int i3) := Option.some.inj ei3
  obtain ⟨i4, ei4⟩ := is_v ga4
  obtain rfl : w4 = (.int i4) := Option.some.inj ei4
  obtain ⟨df, evd⟩ := exa_v (Cond.before_iff.mp (hsets _ (List.mem_of_getElem? (i := 7) rfl)))
  have Sd := Sta.start evd (Or.inr ⟨(hw _ (List.mem_of_getElem? (i := 2) rfl)), (hsets _ (List.mem_of_getElem? (i := 2) rfl))⟩)
  obtain ⟨cf, Af⟩ := Arr.start evd (Cond.before_iff.mp (hsets _ (List.mem_of_getElem? (i := 6) rfl)))
  obtain ⟨qf, lf⟩ := own_len evd Af (Cond.before_iff.mp (hsets _ (List.mem_of_getElem? (i := 8) rfl)))
  have Vf : Arv s s.heap df cf.cls (.object "java/lang/Object") 0 [] .null := Arv.start hfit Af qf lf (by decide) rfl trivial
  have evh := eqv_i (Term.int_eval 127) (Cond.before_iff.mp (hsets _ (List.mem_of_getElem? (i := 12) rfl)))
  have Sh := Sta.start evh (Or.inl (hsets _ (List.mem_of_getElem? (i := 10) rfl)))
  obtain ⟨ca, evc⟩ := exa_v (Cond.before_iff.mp (hsets _ (List.mem_of_getElem? (i := 14) rfl)))
  have Sc := Sta.start evc (Or.inr ⟨(hw _ (List.mem_of_getElem? (i := 63) rfl)), (hsets _ (List.mem_of_getElem? (i := 11) rfl))⟩)
  obtain ⟨cc, Ac⟩ := Arr.start evc (Cond.before_iff.mp (hsets _ (List.mem_of_getElem? (i := 13) rfl)))
  obtain ⟨qc, lc⟩ := own_len evc Ac (Cond.before_iff.mp (hsets _ (List.mem_of_getElem? (i := 15) rfl)))
  have Bx : Bxs s ca cc "java/lang/Integer" "I" 256 (fun j => .int (j - 128)) := Bxs.start (fun idx => (by exact evc)) Ac qc lc (by decide) (Cond.before_iff.mp (hsets _ (List.mem_of_getElem? (i := 16) rfl))) (fun X j nn u => eqv_i (by simp [Term.eval, Binary.apply, idx_at nn]; exact (back32 nn).1) u)
  obtain ⟨n, o, h1, h2, h3, _, L, rfl, ⟨rfl, N⟩, hq⟩ := own_rm0 l s _ hw tables_1 i0 i1 i2 i3 i4 df cf.cls ca cc s.heap s.heap.size (Nat.le_refl _) (Old.start s) Sd Vf Sh Sc Bx p e ha hc hk s m _ below hf ((Spec.applies_iff_loose hf).mp happ).1 ⟨rfl, State.Warmed39.refl s, rfl⟩ trivial
  refine ⟨n, _, h1, h2, h3, hpost _ _ _ _ _ _ ⟨Cond.after_iff.mpr rfl, Cond.after_iff.mpr (eq_i res_at (Term.int_eval (1)) rfl), trivial⟩ ⟨hq.1, hq.2.1, (hq.2.2.sift fun y hy => Or.inr (N y hy)).mono (by decide) (by decide)⟩⟩
theorem main_1_1 : Claimed_1_1 := own_comes fun _ _ _ _ _ _ h hF => ⟨h.1, hF⟩
theorem main_1_2 : Claimed_1_2 := own_comes fun _ _ _ _ _ _ h hF => ⟨h.2.1, hF⟩
end Jvm.Pilot.@@N@@
namespace Jvm.Pilot.@@N@@
open Jvm Jvm.ClassFile Sem Op Lib Jvm.Free Jvm.Stand Jvm.Pilot.@@N@@.Jvm.D
/-! MADE BY PROGRAM (witnessworld.py) out of the Statement's table words and the real class files: 29 classes; the members and pool entries that the words name. The judged class is class 1, her method 1. -/
namespace start1
open Jvm.ClassFile
def u (s : String) : CpInfo := .utf8 (stringToUtf16 s)
/-- a pool by its gaps: so many unusable entries, then the entry; so many at the end -/
def gap : Nat → List CpInfo → List CpInfo
  | 0, r => r
  | n + 1, r => .unusable :: gap n r
def poolList (es : List (Nat × CpInfo)) (last : Nat) : List CpInfo := es.foldr (fun e r => gap e.1 (e.2 :: r)) (gap last [])
def pool (es : List (Nat × CpInfo)) (last : Nat) : Array CpInfo := ⟨poolList es last⟩
def fileOf (pool : Array CpInfo) (this : Nat) (attrs : Array Attribute := #[]) (ms : Array MethodInfo := #[]) (fl : Nat := 33) (sup : Nat := 0) (ifs : Array Nat := #[]) (fds : Array FieldInfo := #[]) : ClassFile where
  minorVersion := 0
  majorVersion := 65
  constantPool := pool
  accessFlags := fl
  thisClass := this
  superClass := sup
  interfaces := ifs
  fields := fds
  methods := ms
  attributes := attrs
def plain (name : String) (sup : Option ClassId) : Class where
  name := name
  kind := .ordinary
  loader := none
  accessFlags := 33
  super := sup
  interfaces := #[]
  cf := none
  fields := #[]
  methods := #[]
  instanceTypes := #[]
  staticTypes := #[]
  resolved := #[]
  callSites := []
  init := .initialized
  statics := none
  mirror := none

def pool0 : Array CpInfo := pool [(5, u "<init>"), (0, u "()V"), (1, .class_ 10), (1, u "java/lang/Object")] 113

def k0c0 : Code := { maxStack := 0, maxLocals := 1, code := object_method_1_code, exceptionTable := #[], attributes := #[] }
def k0m0 : Method := { name := "<init>", desc := "()V", sig := { parameters := [], returnType := none }, accessFlags := 1, code := some k0c0 }
/-- java/lang/Object -/
def k0 : Class := { plain "java/lang/Object" none with
  accessFlags := 33
  interfaces := #[]
  cf := some (fileOf pool0 8 #[] #[{ accessFlags := 1, nameIndex := 5, descriptorIndex := 6, attributes := #[] }] 33 0 #[] #[])
  fields := #[]
  methods := #[k0m0]
  instanceTypes := #[]
  staticTypes := #[]
  resolved := Array.replicate 124 none
  statics := none }

def pool1 : Array CpInfo := pool [(2, .class_ 4), (0, .nameAndType 5 6), (0, u "java/lang/Object"), (0, u "<init>"), (0, u "()V"), (0, .class_ 8), (0, u "java/util/ArrayList"), (0, .methodref 7 3), (0, .methodref 11 12), (0, .class_ 13), (0, .nameAndType 14 15), (0, u "java/lang/Integer"), (0, u "valueOf"), (0, u "(I)Ljava/lang/Integer;"), (0, .methodref 7 17), (0, .nameAndType 18 19), (0, u "add"), (0, u "(Ljava/lang/Object;)Z"), (0, .class_ 21), (0, u "com/example/strigine/strigine/Roles$Chain"), (0, .methodref 20 23), (0, .nameAndType 5 24), (0, u "(Ljava/util/List;I)V"), (0, .methodref 20 26), (0, .nameAndType 27 28), (0, u "isTransitivity"), (0, u "()Z"), (0, .class_ 30), (0, u "com/example/strigine/strigine/ChainIsTransitivityPinLaw"), (2, u "law"), (0, u "(IIIII)Z")] 7

def k1m0 : Method := { name := "<init>", desc := "()V", sig := { parameters := [], returnType := none }, accessFlags := 1, code := none }
def k1c1 : Code := { maxStack := 4, maxLocals := 13, code := code, exceptionTable := #[], attributes := #[] }
def k1m1 : Method := { name := "law", desc := "(IIIII)Z", sig := { parameters := [.int, .int, .int, .int, .int], returnType := some .boolean }, accessFlags := 9, code := some k1c1 }
/-- com/example/strigine/strigine/ChainIsTransitivityPinLaw -/
def k1 : Class := { plain "com/example/strigine/strigine/ChainIsTransitivityPinLaw" (some 0) with
  accessFlags := 49
  interfaces := #[]
  cf := some (fileOf pool1 29 #[] #[{ accessFlags := 1, nameIndex := 5, descriptorIndex := 6, attributes := #[] }, { accessFlags := 9, nameIndex := 33, descriptorIndex := 34, attributes := #[] }] 49 2 #[] #[])
  fields := #[]
  methods := #[k1m0, k1m1]
  instanceTypes := #[]
  staticTypes := #[]
  resolved := Array.replicate 42 none
  statics := none }

def pool2 : Array CpInfo := pool [(8, .class_ 10), (1, u "java/lang/Iterable"), (24, .class_ 36), (0, u "java/lang/Object")] 25

/-- java/lang/Iterable -/
def k2 : Class := { plain "java/lang/Iterable" (some 0) with
  accessFlags := 1537
  interfaces := #[]
  cf := some (fileOf pool2 8 #[] #[] 1537 35 #[] #[])
  fields := #[]
  methods := #[]
  instanceTypes := #[]
  staticTypes := #[]
  resolved := Array.replicate 62 none
  statics := none }

def pool3 : Array CpInfo := pool [(10, .class_ 12), (1, u "java/util/Collection"), (47, .class_ 61), (0, u "java/lang/Object"), (0, .class_ 63), (0, u "java/lang/Iterable")] 51

/-- java/util/Collection -/
def k3 : Class := { plain "java/util/Collection" (some 0) with
  accessFlags := 1537
  interfaces := #[2]
  cf := some (fileOf pool3 10 #[] #[] 1537 60 #[62] #[])
  fields := #[]
  methods := #[]
  instanceTypes := #[]
  staticTypes := #[]
  resolved := Array.replicate 115 none
  statics := none }

def pool4 : Array CpInfo := pool [(1, .methodref 2 3), (0, .class_ 4), (0, .nameAndType 5 6), (0, u "java/lang/Object"), (0, u "<init>"), (0, u "()V"), (1, .class_ 10), (1, u "java/util/AbstractCollection"), (66, .class_ 78), (0, u "java/util/Collection")] 81

def k4c0 : Code := { maxStack := 1, maxLocals := 1, code := jdk_22_method_1_code, exceptionTable := #[], attributes := #[] }
def k4m0 : Method := { name := "<init>", desc := "()V", sig := { parameters := [], returnType := none }, accessFlags := 4, code := some k4c0 }
/-- java/util/AbstractCollection -/
def k4 : Class := { plain "java/util/AbstractCollection" (some 0) with
  accessFlags := 1057
  interfaces := #[3]
  cf := some (fileOf pool4 8 #[] #[{ accessFlags := 4, nameIndex := 5, descriptorIndex := 6, attributes := #[] }] 1057 2 #[77] #[])
  fields := #[]
  methods := #[k4m0]
  instanceTypes := #[]
  staticTypes := #[]
  resolved := Array.replicate 160 none
  statics := none }

def pool5 : Array CpInfo := pool [(8, .class_ 10), (1, u "java/util/SequencedCollection"), (15, .class_ 27), (0, u "java/lang/Object"), (0, .class_ 29), (0, u "java/util/Collection")] 27

/-- java/util/SequencedCollection -/
def k5 : Class := { plain "java/util/SequencedCollection" (some 0) with
  accessFlags := 1537
  interfaces := #[3]
  cf := some (fileOf pool5 8 #[] #[] 1537 26 #[28] #[])
  fields := #[]
  methods := #[]
  instanceTypes := #[]
  staticTypes := #[]
  resolved := Array.replicate 57 none
  statics := none }

def pool6 : Array CpInfo := pool [(8, .class_ 10), (1, u "java/util/List"), (64, u "get"), (0, u "(I)Ljava/lang/Object;"), (2, u "size"), (0, u "()I"), (22, .class_ 104), (0, u "java/lang/Object"), (15, .class_ 121), (0, u "java/util/SequencedCollection")] 129

def k6m0 : Method := { name := "size", desc := "()I", sig := { parameters := [], returnType := some .int }, accessFlags := 1025, code := none }
def k6m1 : Method := { name := "get", desc := "(I)Ljava/lang/Object;", sig := { parameters := [.int], returnType := some (.object "java/lang/Object") }, accessFlags := 1025, code := none }
/-- java/util/List -/
def k6 : Class := { plain "java/util/List" (some 0) with
  accessFlags := 1537
  interfaces := #[5]
  cf := some (fileOf pool6 8 #[] #[{ accessFlags := 1025, nameIndex := 79, descriptorIndex := 80, attributes := #[] }, { accessFlags := 1025, nameIndex := 75, descriptorIndex := 76, attributes := #[] }] 1537 103 #[120] #[])
  fields := #[]
  methods := #[k6m0, k6m1]
  instanceTypes := #[]
  staticTypes := #[]
  resolved := Array.replicate 251 none
  statics := none }

def pool7 : Array CpInfo := pool [(1, .methodref 2 3), (0, .class_ 4), (0, .nameAndType 5 6), (0, u "java/util/AbstractCollection"), (0, u "<init>"), (0, u "()V"), (0, .fieldref 8 9), (0, .class_ 10), (0, .nameAndType 11 12), (0, u "java/util/AbstractList"), (0, u "modCount"), (0, u "I"), (64, .class_ 78), (0, u "java/util/AbstractList$Itr"), (3, .class_ 83), (0, u "java/util/AbstractList$ListItr"), (9, .class_ 94), (0, u "java/util/AbstractList$RandomAccessSubList"), (3, .class_ 99), (0, u "java/util/AbstractList$SubList"), (33, .class_ 134), (0, u "java/util/List"), (73, .class_ 209), (0, u "java/util/AbstractList$SubList$1"), (0, .class_ 211), (0, u "java/util/AbstractList$RandomAccessSpliterator")] 6

def k7c0 : Code := { maxStack := 2, maxLocals := 1, code := jdk_39_method_1_code, exceptionTable := #[], attributes := #[] }
def k7m0 : Method := { name := "<init>", desc := "()V", sig := { parameters := [], returnType := none }, accessFlags := 4, code := some k7c0 }
/-- java/util/AbstractList -/
def k7 : Class := { plain "java/util/AbstractList" (some 4) with
  accessFlags := 1057
  interfaces := #[6]
  cf := some (fileOf pool7 8 #[.nestMembers #[93, 98, 208, 210, 82, 77]] #[{ accessFlags := 4, nameIndex := 5, descriptorIndex := 6, attributes := #[] }] 1057 2 #[133] #[{ accessFlags := 132, nameIndex := 11, descriptorIndex := 12, attributes := #[] }])
  fields := #[{ name := "modCount", type := .int, accessFlags := 132, slot := 0, constantValue := 0 }]
  methods := #[k7m0]
  instanceTypes := #[.int]
  staticTypes := #[]
  resolved := Array.replicate 218 none
  statics := none }

def pool8 : Array CpInfo := pool [(1, .class_ 2), (0, u "java/util/RandomAccess"), (0, .class_ 4), (0, u "java/lang/Object")] 2

/-- java/util/RandomAccess -/
def k8 : Class := { plain "java/util/RandomAccess" (some 0) with
  accessFlags := 1537
  interfaces := #[]
  cf := some (fileOf pool8 1 #[] #[] 1537 3 #[] #[])
  fields := #[]
  methods := #[]
  instanceTypes := #[]
  staticTypes := #[]
  resolved := Array.replicate 7 none
  statics := none }

def pool9 : Array CpInfo := pool [(1, .class_ 2), (0, u "java/lang/Cloneable"), (0, .class_ 4), (0, u "java/lang/Object")] 2

/-- java/lang/Cloneable -/
def k9 : Class := { plain "java/lang/Cloneable" (some 0) with
  accessFlags := 1537
  interfaces := #[]
  cf := some (fileOf pool9 1 #[] #[] 1537 3 #[] #[])
  fields := #[]
  methods := #[]
  instanceTypes := #[]
  staticTypes := #[]
  resolved := Array.replicate 7 none
  statics := none }

def pool10 : Array CpInfo := pool [(1, .class_ 2), (0, u "java/io/Serializable"), (0, .class_ 4), (0, u "java/lang/Object")] 2

/-- java/io/Serializable -/
def k10 : Class := { plain "java/io/Serializable" (some 0) with
  accessFlags := 1537
  interfaces := #[]
  cf := some (fileOf pool10 1 #[] #[] 1537 3 #[] #[])
  fields := #[]
  methods := #[]
  instanceTypes := #[]
  staticTypes := #[]
  resolved := Array.replicate 7 none
  statics := none }

def pool11 : Array CpInfo := pool [(1, .methodref 2 3), (0, .class_ 4), (0, .nameAndType 5 6), (0, u "java/util/AbstractList"), (0, u "<init>"), (0, u "()V"), (0, .class_ 8), (0, u "java/lang/Object"), (0, .fieldref 10 11), (0, .class_ 12), (0, .nameAndType 13 14), (0, u "java/util/ArrayList"), (0, u "elementData"), (0, u "[Ljava/lang/Object;"), (2, u "EMPTY_ELEMENTDATA"), (21, .fieldref 10 40), (0, .nameAndType 41 14), (0, u "DEFAULTCAPACITY_EMPTY_ELEMENTDATA"), (5, u "()[Ljava/lang/Object;"), (0, .fieldref 10 49), (0, .nameAndType 50 51), (0, u "size"), (0, u "I"), (11, .fieldref 10 64), (0, .nameAndType 65 51), (0, u "modCount"), (3, .methodref 10 70), (0, .nameAndType 71 72), (0, u "grow"), (0, u "(I)[Ljava/lang/Object;"), (6, .methodref 80 81), (0, .class_ 82), (0, .nameAndType 83 84), (0, u "java/lang/Math"), (0, u "max"), (0, u "(II)I"), (11, u "(Ljava/lang/Object;)Z"), (21, .methodref 119 120), (0, .class_ 121), (0, .nameAndType 122 84), (0, u "java/util/Objects"), (0, u "checkIndex"), (0, .methodref 10 124), (0, .nameAndType 13 125), (0, u "(I)Ljava/lang/Object;"), (3, .methodref 10 130), (0, .nameAndType 71 47), (0, .methodref 10 132), (0, .nameAndType 133 134), (0, u "add"), (0, u "(Ljava/lang/Object;[Ljava/lang/Object;I)V"), (13, .class_ 149), (0, u "java/util/List"), (36, u "()I"), (75, .class_ 263), (0, u "java/util/ArrayList$ListItr"), (3, .class_ 268), (0, u "java/util/ArrayList$Itr"), (7, .class_ 277), (0, u "java/util/ArrayList$SubList"), (12, .class_ 291), (0, u "java/util/ArrayList$ArrayListSpliterator"), (37, .class_ 330), (0, u "java/util/RandomAccess"), (0, .class_ 332), (0, u "java/lang/Cloneable"), (0, .class_ 334), (0, u "java/io/Serializable"), (0, u "serialVersionUID"), (0, u "J"), (3, u "DEFAULT_CAPACITY"), (40, u "get"), (118, .class_ 501), (0, u "java/util/ArrayList$SubList$2"), (0, .class_ 503), (0, u "java/util/ArrayList$SubList$1")] 5

def k11c0 : Code := { maxStack := 2, maxLocals := 1, code := jdk_38_method_2_code, exceptionTable := #[], attributes := #[] }
def k11m0 : Method := { name := "<init>", desc := "()V", sig := { parameters := [], returnType := none }, accessFlags := 1, code := some k11c0 }
def k11c1 : Code := { maxStack := 4, maxLocals := 4, code := jdk_38_method_6_code, exceptionTable := #[], attributes := #[] }
def k11m1 : Method := { name := "grow", desc := "(I)[Ljava/lang/Object;", sig := { parameters := [.int], returnType := some (.array (.object "java/lang/Object")) }, accessFlags := 2, code := some k11c1 }
def k11c2 : Code := { maxStack := 3, maxLocals := 1, code := jdk_38_method_7_code, exceptionTable := #[], attributes := #[] }
def k11m2 : Method := { name := "grow", desc := "()[Ljava/lang/Object;", sig := { parameters := [], returnType := some (.array (.object "java/lang/Object")) }, accessFlags := 2, code := some k11c2 }
def k11c3 : Code := { maxStack := 1, maxLocals := 1, code := jdk_38_method_8_code, exceptionTable := #[], attributes := #[] }
def k11m3 : Method := { name := "size", desc := "()I", sig := { parameters := [], returnType := some .int }, accessFlags := 1, code := some k11c3 }
def k11c4 : Code := { maxStack := 2, maxLocals := 2, code := jdk_38_method_18_code, exceptionTable := #[], attributes := #[] }
def k11m4 : Method := { name := "elementData", desc := "(I)Ljava/lang/Object;", sig := { parameters := [.int], returnType := some (.object "java/lang/Object") }, accessFlags := 0, code := some k11c4 }
def k11c5 : Code := { maxStack := 2, maxLocals := 2, code := jdk_38_method_20_code, exceptionTable := #[], attributes := #[] }
def k11m5 : Method := { name := "get", desc := "(I)Ljava/lang/Object;", sig := { parameters := [.int], returnType := some (.object "java/lang/Object") }, accessFlags := 1, code := some k11c5 }
def k11c6 : Code := { maxStack := 3, maxLocals := 4, code := jdk_38_method_24_code, exceptionTable := #[], attributes := #[] }
def k11m6 : Method := { name := "add", desc := "(Ljava/lang/Object;[Ljava/lang/Object;I)V", sig := { parameters := [(.object "java/lang/Object"), (.array (.object "java/lang/Object")), .int], returnType := none }, accessFlags := 2, code := some k11c6 }
def k11c7 : Code := { maxStack := 4, maxLocals := 2, code := jdk_38_method_25_code, exceptionTable := #[], attributes := #[] }
def k11m7 : Method := { name := "add", desc := "(Ljava/lang/Object;)Z", sig := { parameters := [(.object "java/lang/Object")], returnType := some .boolean }, accessFlags := 1, code := some k11c7 }
/-- java/util/ArrayList -/
def k11 : Class := { plain "java/util/ArrayList" (some 7) with
  accessFlags := 33
  interfaces := #[6, 8, 9, 10]
  cf := some (fileOf pool11 10 #[.nestMembers #[290, 276, 500, 502, 262, 267]] #[{ accessFlags := 1, nameIndex := 5, descriptorIndex := 6, attributes := #[] }, { accessFlags := 2, nameIndex := 71, descriptorIndex := 72, attributes := #[] }, { accessFlags := 2, nameIndex := 71, descriptorIndex := 47, attributes := #[] }, { accessFlags := 1, nameIndex := 50, descriptorIndex := 186, attributes := #[] }, { accessFlags := 0, nameIndex := 13, descriptorIndex := 125, attributes := #[] }, { accessFlags := 1, nameIndex := 381, descriptorIndex := 125, attributes := #[] }, { accessFlags := 2, nameIndex := 133, descriptorIndex := 134, attributes := #[] }, { accessFlags := 1, nameIndex := 133, descriptorIndex := 96, attributes := #[] }] 33 2 #[148, 329, 331, 333] #[{ accessFlags := 26, nameIndex := 335, descriptorIndex := 336, attributes := #[] }, { accessFlags := 26, nameIndex := 340, descriptorIndex := 51, attributes := #[] }, { accessFlags := 26, nameIndex := 17, descriptorIndex := 14, attributes := #[] }, { accessFlags := 26, nameIndex := 41, descriptorIndex := 14, attributes := #[] }, { accessFlags := 128, nameIndex := 13, descriptorIndex := 14, attributes := #[] }, { accessFlags := 2, nameIndex := 50, descriptorIndex := 51, attributes := #[] }])
  fields := #[{ name := "serialVersionUID", type := .long, accessFlags := 26, slot := 0, constantValue := 0 }, { name := "DEFAULT_CAPACITY", type := .int, accessFlags := 26, slot := 1, constantValue := 0 }, { name := "EMPTY_ELEMENTDATA", type := (.array (.object "java/lang/Object")), accessFlags := 26, slot := 2, constantValue := 0 }, { name := "DEFAULTCAPACITY_EMPTY_ELEMENTDATA", type := (.array (.object "java/lang/Object")), accessFlags := 26, slot := 3, constantValue := 0 }, { name := "elementData", type := (.array (.object "java/lang/Object")), accessFlags := 128, slot := 1, constantValue := 0 }, { name := "size", type := .int, accessFlags := 2, slot := 2, constantValue := 0 }]
  methods := #[k11m0, k11m1, k11m2, k11m3, k11m4, k11m5, k11m6, k11m7]
  instanceTypes := #[.int, (.array (.object "java/lang/Object")), .int]
  staticTypes := #[.long, .int, (.array (.object "java/lang/Object")), (.array (.object "java/lang/Object"))]
  resolved := Array.replicate 509 none
  statics := some 0 }

def pool12 : Array CpInfo := pool [(1, .methodref 2 3), (0, .class_ 4), (0, .nameAndType 5 6), (0, u "java/lang/Object"), (0, u "<init>"), (0, u "()V"), (0, .class_ 8), (0, u "java/lang/Record")] 13

def k12c0 : Code := { maxStack := 1, maxLocals := 1, code := jdk_30_method_1_code, exceptionTable := #[], attributes := #[] }
def k12m0 : Method := { name := "<init>", desc := "()V", sig := { parameters := [], returnType := none }, accessFlags := 4, code := some k12c0 }
/-- java/lang/Record -/
def k12 : Class := { plain "java/lang/Record" (some 0) with
  accessFlags := 1057
  interfaces := #[]
  cf := some (fileOf pool12 7 #[] #[{ accessFlags := 4, nameIndex := 5, descriptorIndex := 6, attributes := #[] }] 1057 2 #[] #[])
  fields := #[]
  methods := #[k12m0]
  instanceTypes := #[]
  staticTypes := #[]
  resolved := Array.replicate 22 none
  statics := none }

def pool13 : Array CpInfo := pool [(1, .methodref 2 3), (0, .class_ 4), (0, .nameAndType 5 6), (0, u "java/lang/Record"), (0, u "<init>"), (0, u "()V"), (0, .fieldref 8 9), (0, .class_ 10), (0, .nameAndType 11 12), (0, u "com/example/strigine/strigine/Roles$Chain"), (0, u "roles"), (0, u "Ljava/util/List;"), (0, .fieldref 8 14), (0, .nameAndType 15 16), (0, u "sup"), (0, u "I"), (0, .interfaceMethodref 18 19), (0, .class_ 20), (0, .nameAndType 21 22), (0, u "java/util/List"), (0, u "size"), (0, u "()I"), (0, .interfaceMethodref 18 24), (0, .nameAndType 25 26), (0, u "get"), (0, u "(I)Ljava/lang/Object;"), (0, .class_ 28), (0, u "java/lang/Integer"), (0, .methodref 27 30), (0, .nameAndType 31 22), (0, u "intValue"), (4, .class_ 38), (1, u "com/example/strigine/strigine/Roles"), (16, u "(Ljava/util/List;I)V"), (18, u "isTransitivity"), (0, u "()Z")] 29

def k13c0 : Code := { maxStack := 2, maxLocals := 3, code := prog_12_method_1_code, exceptionTable := #[], attributes := #[] }
def k13m0 : Method := { name := "<init>", desc := "(Ljava/util/List;I)V", sig := { parameters := [(.object "java/util/List"), .int], returnType := none }, accessFlags := 0, code := some k13c0 }
def k13c1 : Code := { maxStack := 2, maxLocals := 1, code := prog_12_method_2_code, exceptionTable := #[], attributes := #[] }
def k13m1 : Method := { name := "isTransitivity", desc := "()Z", sig := { parameters := [], returnType := some .boolean }, accessFlags := 0, code := some k13c1 }
/-- com/example/strigine/strigine/Roles$Chain -/
def k13 : Class := { plain "com/example/strigine/strigine/Roles$Chain" (some 12) with
  accessFlags := 48
  interfaces := #[]
  cf := some (fileOf pool13 8 #[.nestHost 36] #[{ accessFlags := 0, nameIndex := 5, descriptorIndex := 55, attributes := #[] }, { accessFlags := 0, nameIndex := 74, descriptorIndex := 75, attributes := #[] }] 48 2 #[] #[{ accessFlags := 18, nameIndex := 11, descriptorIndex := 12, attributes := #[] }, { accessFlags := 18, nameIndex := 15, descriptorIndex := 16, attributes := #[] }])
  fields := #[{ name := "roles", type := (.object "java/util/List"), accessFlags := 18, slot := 0, constantValue := 0 }, { name := "sup", type := .int, accessFlags := 18, slot := 1, constantValue := 0 }]
  methods := #[k13m0, k13m1]
  instanceTypes := #[(.object "java/util/List"), .int]
  staticTypes := #[]
  resolved := Array.replicate 105 none
  statics := none }

def pool14 : Array CpInfo := pool [(1, .methodref 2 3), (0, .class_ 4), (0, .nameAndType 5 6), (0, u "java/lang/Object"), (0, u "<init>"), (0, u "()V"), (1, .class_ 10), (1, u "java/lang/Number"), (2, .class_ 14), (0, u "java/io/Serializable"), (0, u "serialVersionUID"), (0, u "J")] 20

def k14c0 : Code := { maxStack := 1, maxLocals := 1, code := jdk_18_method_1_code, exceptionTable := #[], attributes := #[] }
def k14m0 : Method := { name := "<init>", desc := "()V", sig := { parameters := [], returnType := none }, accessFlags := 1, code := some k14c0 }
/-- java/lang/Number -/
def k14 : Class := { plain "java/lang/Number" (some 0) with
  accessFlags := 1057
  interfaces := #[10]
  cf := some (fileOf pool14 8 #[] #[{ accessFlags := 1, nameIndex := 5, descriptorIndex := 6, attributes := #[] }] 1057 2 #[13] #[{ accessFlags := 26, nameIndex := 15, descriptorIndex := 16, attributes := #[] }])
  fields := #[{ name := "serialVersionUID", type := .long, accessFlags := 26, slot := 0, constantValue := 0 }]
  methods := #[k14m0]
  instanceTypes := #[]
  staticTypes := #[.long]
  resolved := Array.replicate 37 none
  statics := none }

def pool15 : Array CpInfo := pool [(1, .class_ 2), (0, u "java/lang/Comparable"), (0, .class_ 4), (0, u "java/lang/Object")] 7

/-- java/lang/Comparable -/
def k15 : Class := { plain "java/lang/Comparable" (some 0) with
  accessFlags := 1537
  interfaces := #[]
  cf := some (fileOf pool15 1 #[] #[] 1537 3 #[] #[])
  fields := #[]
  methods := #[]
  instanceTypes := #[]
  staticTypes := #[]
  resolved := Array.replicate 12 none
  statics := none }

def pool16 : Array CpInfo := pool [(1, .class_ 2), (0, u "java/lang/constant/Constable"), (0, .class_ 4), (0, u "java/lang/Object")] 6

/-- java/lang/constant/Constable -/
def k16 : Class := { plain "java/lang/constant/Constable" (some 0) with
  accessFlags := 1537
  interfaces := #[]
  cf := some (fileOf pool16 1 #[] #[] 1537 3 #[] #[])
  fields := #[]
  methods := #[]
  instanceTypes := #[]
  staticTypes := #[]
  resolved := Array.replicate 11 none
  statics := none }

def pool17 : Array CpInfo := pool [(1, .class_ 2), (0, u "java/lang/constant/ConstantDesc"), (0, .class_ 4), (0, u "java/lang/Object")] 32

/-- java/lang/constant/ConstantDesc -/
def k17 : Class := { plain "java/lang/constant/ConstantDesc" (some 0) with
  accessFlags := 1537
  interfaces := #[]
  cf := some (fileOf pool17 1 #[] #[] 1537 3 #[] #[])
  fields := #[]
  methods := #[]
  instanceTypes := #[]
  staticTypes := #[]
  resolved := Array.replicate 37 none
  statics := none }

def pool18 : Array CpInfo := pool [(1, .class_ 2), (0, u "java/lang/Integer"), (16, u "digits"), (0, u "[C"), (46, u "<init>"), (17, u "DigitOnes"), (0, u "[B"), (2, u "DigitTens"), (10, .nameAndType 67 101), (0, u "()V"), (19, u "()I"), (65, u "valueOf"), (0, u "(I)Ljava/lang/Integer;"), (0, .class_ 190), (0, u "java/lang/Integer$IntegerCache"), (0, .fieldref 189 192), (0, .nameAndType 193 194), (0, u "high"), (0, u "I"), (0, .fieldref 189 196), (0, .nameAndType 197 198), (0, u "cache"), (0, u "[Ljava/lang/Integer;"), (0, .methodref 1 200), (0, .nameAndType 67 201), (0, u "(I)V"), (0, .methodref 203 100), (0, .class_ 204), (0, u "java/lang/Number"), (0, .fieldref 1 206), (0, .nameAndType 207 194), (0, u "value"), (5, u "intValue"), (88, u "TYPE"), (0, u "Ljava/lang/Class;"), (0, .class_ 305), (0, u "java/lang/Comparable"), (0, .class_ 307), (0, u "java/lang/constant/Constable"), (0, .class_ 309), (0, u "java/lang/constant/ConstantDesc"), (0, u "MIN_VALUE"), (1, u "MAX_VALUE"), (3, u "SIZE"), (1, u "BYTES"), (1, u "serialVersionUID"), (0, u "J")] 131

def k18c0 : Code := { maxStack := 3, maxLocals := 1, code := jdk_33_method_22_code, exceptionTable := #[], attributes := #[] }
def k18m0 : Method := { name := "valueOf", desc := "(I)Ljava/lang/Integer;", sig := { parameters := [.int], returnType := some (.object "java/lang/Integer") }, accessFlags := 9, code := some k18c0 }
def k18c1 : Code := { maxStack := 2, maxLocals := 2, code := jdk_33_method_23_code, exceptionTable := #[], attributes := #[] }
def k18m1 : Method := { name := "<init>", desc := "(I)V", sig := { parameters := [.int], returnType := none }, accessFlags := 1, code := some k18c1 }
def k18c2 : Code := { maxStack := 1, maxLocals := 1, code := jdk_33_method_27_code, exceptionTable := #[], attributes := #[] }
def k18m2 : Method := { name := "intValue", desc := "()I", sig := { parameters := [], returnType := some .int }, accessFlags := 1, code := some k18c2 }
/-- java/lang/Integer -/
def k18 : Class := { plain "java/lang/Integer" (some 14) with
  accessFlags := 49
  interfaces := #[15, 16, 17]
  cf := some (fileOf pool18 1 #[.nestMembers #[189]] #[{ accessFlags := 9, nameIndex := 187, descriptorIndex := 188, attributes := #[] }, { accessFlags := 1, nameIndex := 67, descriptorIndex := 201, attributes := #[] }, { accessFlags := 1, nameIndex := 213, descriptorIndex := 121, attributes := #[] }] 49 203 #[304, 306, 308] #[{ accessFlags := 25, nameIndex := 310, descriptorIndex := 194, attributes := #[] }, { accessFlags := 25, nameIndex := 312, descriptorIndex := 194, attributes := #[] }, { accessFlags := 25, nameIndex := 302, descriptorIndex := 303, attributes := #[] }, { accessFlags := 24, nameIndex := 19, descriptorIndex := 20, attributes := #[] }, { accessFlags := 24, nameIndex := 89, descriptorIndex := 86, attributes := #[] }, { accessFlags := 24, nameIndex := 85, descriptorIndex := 86, attributes := #[] }, { accessFlags := 18, nameIndex := 207, descriptorIndex := 194, attributes := #[] }, { accessFlags := 25, nameIndex := 316, descriptorIndex := 194, attributes := #[] }, { accessFlags := 25, nameIndex := 318, descriptorIndex := 194, attributes := #[] }, { accessFlags := 26, nameIndex := 320, descriptorIndex := 321, attributes := #[] }])
  fields := #[{ name := "MIN_VALUE", type := .int, accessFlags := 25, slot := 0, constantValue := 0 }, { name := "MAX_VALUE", type := .int, accessFlags := 25, slot := 1, constantValue := 0 }, { name := "TYPE", type := (.object "java/lang/Class"), accessFlags := 25, slot := 2, constantValue := 0 }, { name := "digits", type := (.array .char), accessFlags := 24, slot := 3, constantValue := 0 }, { name := "DigitTens", type := (.array .byte), accessFlags := 24, slot := 4, constantValue := 0 }, { name := "DigitOnes", type := (.array .byte), accessFlags := 24, slot := 5, constantValue := 0 }, { name := "value", type := .int, accessFlags := 18, slot := 0, constantValue := 0 }, { name := "SIZE", type := .int, accessFlags := 25, slot := 6, constantValue := 0 }, { name := "BYTES", type := .int, accessFlags := 25, slot := 7, constantValue := 0 }, { name := "serialVersionUID", type := .long, accessFlags := 26, slot := 8, constantValue := 0 }]
  methods := #[k18m0, k18m1, k18m2]
  instanceTypes := #[.int]
  staticTypes := #[.int, .int, (.object "java/lang/Class"), (.array .char), (.array .byte), (.array .byte), .int, .int, .long]
  resolved := Array.replicate 453 none
  statics := none }

def pool19 : Array CpInfo := pool [(2, .class_ 4), (1, u "java/lang/Object"), (0, u "<init>"), (0, u "()V"), (0, .class_ 8), (0, u "java/lang/Integer"), (7, .class_ 18), (1, u "java/lang/Integer$IntegerCache"), (0, u "$assertionsDisabled"), (0, u "Z"), (26, u "high"), (0, u "I"), (8, u "archivedCache"), (0, u "[Ljava/lang/Integer;"), (12, u "cache"), (0, u "low")] 27

def k19m0 : Method := { name := "<init>", desc := "()V", sig := { parameters := [], returnType := none }, accessFlags := 2, code := none }
/-- java/lang/Integer$IntegerCache -/
def k19 : Class := { plain "java/lang/Integer$IntegerCache" (some 0) with
  accessFlags := 48
  interfaces := #[]
  cf := some (fileOf pool19 16 #[.nestHost 7] #[{ accessFlags := 2, nameIndex := 5, descriptorIndex := 6, attributes := #[] }] 48 2 #[] #[{ accessFlags := 24, nameIndex := 72, descriptorIndex := 48, attributes := #[] }, { accessFlags := 24, nameIndex := 47, descriptorIndex := 48, attributes := #[] }, { accessFlags := 24, nameIndex := 71, descriptorIndex := 58, attributes := #[] }, { accessFlags := 8, nameIndex := 57, descriptorIndex := 58, attributes := #[] }, { accessFlags := 4120, nameIndex := 19, descriptorIndex := 20, attributes := #[] }])
  fields := #[{ name := "low", type := .int, accessFlags := 24, slot := 0, constantValue := 0 }, { name := "high", type := .int, accessFlags := 24, slot := 1, constantValue := 0 }, { name := "cache", type := (.array (.object "java/lang/Integer")), accessFlags := 24, slot := 2, constantValue := 0 }, { name := "archivedCache", type := (.array (.object "java/lang/Integer")), accessFlags := 8, slot := 3, constantValue := 0 }, { name := "$assertionsDisabled", type := .boolean, accessFlags := 4120, slot := 4, constantValue := 0 }]
  methods := #[k19m0]
  instanceTypes := #[]
  staticTypes := #[.int, .int, (.array (.object "java/lang/Integer")), (.array (.object "java/lang/Integer")), .boolean]
  resolved := Array.replicate 100 none
  statics := some 1 }

def pool20 : Array CpInfo := pool [(1, .class_ 2), (0, u "java/lang/Math"), (1, .class_ 6), (1, u "java/lang/Object"), (0, u "<init>"), (0, u "()V"), (89, .class_ 100), (1, u "java/lang/Math$RandomNumberGeneratorHolder"), (71, u "negativeZeroFloatBits"), (0, u "J"), (2, u "negativeZeroDoubleBits"), (21, u "max"), (46, u "$assertionsDisabled"), (0, u "Z"), (88, u "(II)I"), (2, u "twoToTheDoubleScaleDown"), (0, u "D"), (4, u "twoToTheDoubleScaleUp"), (9, u "E"), (3, u "PI"), (2, u "TAU"), (2, u "DEGREES_TO_RADIANS"), (0, u "RADIANS_TO_DEGREES")] 94

def k20m0 : Method := { name := "<init>", desc := "()V", sig := { parameters := [], returnType := none }, accessFlags := 2, code := none }
def k20c1 : Code := { maxStack := 2, maxLocals := 2, code := jdk_29_method_65_code, exceptionTable := #[], attributes := #[] }
def k20m1 : Method := { name := "max", desc := "(II)I", sig := { parameters := [.int, .int], returnType := some .int }, accessFlags := 9, code := some k20c1 }
/-- java/lang/Math -/
def k20 : Class := { plain "java/lang/Math" (some 0) with
  accessFlags := 49
  interfaces := #[]
  cf := some (fileOf pool20 1 #[.nestMembers #[98]] #[{ accessFlags := 2, nameIndex := 7, descriptorIndex := 8, attributes := #[] }, { accessFlags := 9, nameIndex := 198, descriptorIndex := 335, attributes := #[] }] 49 4 #[] #[{ accessFlags := 25, nameIndex := 354, descriptorIndex := 339, attributes := #[] }, { accessFlags := 25, nameIndex := 358, descriptorIndex := 339, attributes := #[] }, { accessFlags := 25, nameIndex := 361, descriptorIndex := 339, attributes := #[] }, { accessFlags := 26, nameIndex := 364, descriptorIndex := 339, attributes := #[] }, { accessFlags := 26, nameIndex := 365, descriptorIndex := 339, attributes := #[] }, { accessFlags := 26, nameIndex := 172, descriptorIndex := 173, attributes := #[] }, { accessFlags := 26, nameIndex := 176, descriptorIndex := 173, attributes := #[] }, { accessFlags := 8, nameIndex := 344, descriptorIndex := 339, attributes := #[] }, { accessFlags := 8, nameIndex := 338, descriptorIndex := 339, attributes := #[] }, { accessFlags := 4120, nameIndex := 245, descriptorIndex := 246, attributes := #[] }])
  fields := #[{ name := "E", type := .double, accessFlags := 25, slot := 0, constantValue := 0 }, { name := "PI", type := .double, accessFlags := 25, slot := 1, constantValue := 0 }, { name := "TAU", type := .double, accessFlags := 25, slot := 2, constantValue := 0 }, { name := "DEGREES_TO_RADIANS", type := .double, accessFlags := 26, slot := 3, constantValue := 0 }, { name := "RADIANS_TO_DEGREES", type := .double, accessFlags := 26, slot := 4, constantValue := 0 }, { name := "negativeZeroFloatBits", type := .long, accessFlags := 26, slot := 5, constantValue := 0 }, { name := "negativeZeroDoubleBits", type := .long, accessFlags := 26, slot := 6, constantValue := 0 }, { name := "twoToTheDoubleScaleUp", type := .double, accessFlags := 8, slot := 7, constantValue := 0 }, { name := "twoToTheDoubleScaleDown", type := .double, accessFlags := 8, slot := 8, constantValue := 0 }, { name := "$assertionsDisabled", type := .boolean, accessFlags := 4120, slot := 9, constantValue := 0 }]
  methods := #[k20m0, k20m1]
  instanceTypes := #[]
  staticTypes := #[.double, .double, .double, .double, .double, .long, .long, .double, .double, .boolean]
  resolved := Array.replicate 460 none
  statics := none }

def pool21 : Array CpInfo := pool [(2, .class_ 4), (1, u "java/lang/Object"), (0, u "<init>"), (0, u "()V"), (35, .class_ 44), (1, u "java/util/Objects"), (60, .methodref 106 107), (0, .class_ 108), (0, .nameAndType 109 110), (0, u "jdk/internal/util/Preconditions"), (0, u "checkIndex"), (0, u "(IILjava/util/function/BiFunction;)I"), (60, u "(II)I")] 12

def k21m0 : Method := { name := "<init>", desc := "()V", sig := { parameters := [], returnType := none }, accessFlags := 2, code := none }
def k21c1 : Code := { maxStack := 3, maxLocals := 2, code := jdk_31_method_17_code, exceptionTable := #[], attributes := #[] }
def k21m1 : Method := { name := "checkIndex", desc := "(II)I", sig := { parameters := [.int, .int], returnType := some .int }, accessFlags := 9, code := some k21c1 }
/-- java/util/Objects -/
def k21 : Class := { plain "java/util/Objects" (some 0) with
  accessFlags := 49
  interfaces := #[]
  cf := some (fileOf pool21 42 #[] #[{ accessFlags := 2, nameIndex := 5, descriptorIndex := 6, attributes := #[] }, { accessFlags := 9, nameIndex := 109, descriptorIndex := 171, attributes := #[] }] 49 2 #[] #[])
  fields := #[]
  methods := #[k21m0, k21m1]
  instanceTypes := #[]
  staticTypes := #[]
  resolved := Array.replicate 184 none
  statics := none }

def pool22 : Array CpInfo := pool [(2, .class_ 4), (1, u "java/lang/Object"), (0, u "<init>"), (0, u "()V"), (17, .class_ 26), (1, u "jdk/internal/util/Preconditions"), (6, u "checkIndex"), (21, .class_ 56), (0, u "jdk/internal/util/Preconditions$4"), (57, .class_ 115), (0, u "jdk/internal/util/Preconditions$1"), (7, u "SIOOBE_FORMATTER"), (0, u "Ljava/util/function/BiFunction;"), (0, .class_ 126), (0, u "jdk/internal/util/Preconditions$2"), (3, u "AIOOBE_FORMATTER"), (0, .class_ 132), (0, u "jdk/internal/util/Preconditions$3"), (3, u "IOOBE_FORMATTER"), (41, u "(IILjava/util/function/BiFunction;)I")] 15

def k22m0 : Method := { name := "<init>", desc := "()V", sig := { parameters := [], returnType := none }, accessFlags := 1, code := none }
def k22c1 : Code := { maxStack := 3, maxLocals := 3, code := jdk_41_method_11_code, exceptionTable := #[], attributes := #[] }
def k22m1 : Method := { name := "checkIndex", desc := "(IILjava/util/function/BiFunction;)I", sig := { parameters := [.int, .int, (.object "java/util/function/BiFunction")], returnType := some .int }, accessFlags := 9, code := some k22c1 }
/-- jdk/internal/util/Preconditions -/
def k22 : Class := { plain "jdk/internal/util/Preconditions" (some 0) with
  accessFlags := 33
  interfaces := #[]
  cf := some (fileOf pool22 24 #[.nestMembers #[55, 131, 125, 114]] #[{ accessFlags := 1, nameIndex := 5, descriptorIndex := 6, attributes := #[] }, { accessFlags := 9, nameIndex := 33, descriptorIndex := 178, attributes := #[] }] 33 2 #[] #[{ accessFlags := 25, nameIndex := 123, descriptorIndex := 124, attributes := #[] }, { accessFlags := 25, nameIndex := 130, descriptorIndex := 124, attributes := #[] }, { accessFlags := 25, nameIndex := 136, descriptorIndex := 124, attributes := #[] }])
  fields := #[{ name := "SIOOBE_FORMATTER", type := (.object "java/util/function/BiFunction"), accessFlags := 25, slot := 0, constantValue := 0 }, { name := "AIOOBE_FORMATTER", type := (.object "java/util/function/BiFunction"), accessFlags := 25, slot := 1, constantValue := 0 }, { name := "IOOBE_FORMATTER", type := (.object "java/util/function/BiFunction"), accessFlags := 25, slot := 2, constantValue := 0 }]
  methods := #[k22m0, k22m1]
  instanceTypes := #[]
  staticTypes := #[(.object "java/util/function/BiFunction"), (.object "java/util/function/BiFunction"), (.object "java/util/function/BiFunction")]
  resolved := Array.replicate 194 none
  statics := none }

/-- the primitive byte -/
def k23 : Class := { plain "byte" none with kind := .primitive 'B', accessFlags := 0x411 }
/-- [B -/
def k24 : Class := { plain "[B" (some 0) with kind := .array 23 .byte, interfaces := #[9, 10], accessFlags := 1041 }

/-- the primitive int -/
def k25 : Class := { plain "int" none with kind := .primitive 'I', accessFlags := 0x411 }
/-- [I -/
def k26 : Class := { plain "[I" (some 0) with kind := .array 25 .int, interfaces := #[9, 10], accessFlags := 1041 }

/-- [Ljava/lang/Integer; -/
def k27 : Class := { plain "[Ljava/lang/Integer;" (some 0) with kind := .array 18 (.object "java/lang/Integer"), interfaces := #[9, 10], accessFlags := 1041 }

/-- [Ljava/lang/Object; -/
def k28 : Class := { plain "[Ljava/lang/Object;" (some 0) with kind := .array 0 (.object "java/lang/Object"), interfaces := #[9, 10], accessFlags := 1041 }

def heap : Heap := #[{ cls := 11, slots := #[.long 0, .int 0, .ref 259, .ref 260], vm := .statics 11 },
  { cls := 19, slots := #[.int 0, .int 127, .ref 2, .null, .int 0], vm := .statics 19 },
  { cls := 27, slots := #[.ref 3, .ref 4, .ref 5, .ref 6, .ref 7, .ref 8, .ref 9, .ref 10, .ref 11, .ref 12, .ref 13, .ref 14, .ref 15, .ref 16, .ref 17, .ref 18, .ref 19, .ref 20, .ref 21, .ref 22, .ref 23, .ref 24, .ref 25, .ref 26, .ref 27, .ref 28, .ref 29, .ref 30, .ref 31, .ref 32, .ref 33, .ref 34, .ref 35, .ref 36, .ref 37, .ref 38, .ref 39, .ref 40, .ref 41, .ref 42, .ref 43, .ref 44, .ref 45, .ref 46, .ref 47, .ref 48, .ref 49, .ref 50, .ref 51, .ref 52, .ref 53, .ref 54, .ref 55, .ref 56, .ref 57, .ref 58, .ref 59, .ref 60, .ref 61, .ref 62, .ref 63, .ref 64, .ref 65, .ref 66, .ref 67, .ref 68, .ref 69, .ref 70, .ref 71, .ref 72, .ref 73, .ref 74, .ref 75, .ref 76, .ref 77, .ref 78, .ref 79, .ref 80, .ref 81, .ref 82, .ref 83, .ref 84, .ref 85, .ref 86, .ref 87, .ref 88, .ref 89, .ref 90, .ref 91, .ref 92, .ref 93, .ref 94, .ref 95, .ref 96, .ref 97, .ref 98, .ref 99, .ref 100, .ref 101, .ref 102, .ref 103, .ref 104, .ref 105, .ref 106, .ref 107, .ref 108, .ref 109, .ref 110, .ref 111, .ref 112, .ref 113, .ref 114, .ref 115, .ref 116, .ref 117, .ref 118, .ref 119, .ref 120, .ref 121, .ref 122, .ref 123, .ref 124, .ref 125, .ref 126, .ref 127, .ref 128, .ref 129, .ref 130, .ref 131, .ref 132, .ref 133, .ref 134, .ref 135, .ref 136, .ref 137, .ref 138, .ref 139, .ref 140, .ref 141, .ref 142, .ref 143, .ref 144, .ref 145, .ref 146, .ref 147, .ref 148, .ref 149, .ref 150, .ref 151, .ref 152, .ref 153, .ref 154, .ref 155, .ref 156, .ref 157, .ref 158, .ref 159, .ref 160, .ref 161, .ref 162, .ref 163, .ref 164, .ref 165, .ref 166, .ref 167, .ref 168, .ref 169, .ref 170, .ref 171, .ref 172, .ref 173, .ref 174, .ref 175, .ref 176, .ref 177, .ref 178, .ref 179, .ref 180, .ref 181, .ref 182, .ref 183, .ref 184, .ref 185, .ref 186, .ref 187, .ref 188, .ref 189, .ref 190, .ref 191, .ref 192, .ref 193, .ref 194, .ref 195, .ref 196, .ref 197, .ref 198, .ref 199, .ref 200, .ref 201, .ref 202, .ref 203, .ref 204, .ref 205, .ref 206, .ref 207, .ref 208, .ref 209, .ref 210, .ref 211, .ref 212, .ref 213, .ref 214, .ref 215, .ref 216, .ref 217, .ref 218, .ref 219, .ref 220, .ref 221, .ref 222, .ref 223, .ref 224, .ref 225, .ref 226, .ref 227, .ref 228, .ref 229, .ref 230, .ref 231, .ref 232, .ref 233, .ref 234, .ref 235, .ref 236, .ref 237, .ref 238, .ref 239, .ref 240, .ref 241, .ref 242, .ref 243, .ref 244, .ref 245, .ref 246, .ref 247, .ref 248, .ref 249, .ref 250, .ref 251, .ref 252, .ref 253, .ref 254, .ref 255, .ref 256, .ref 257, .ref 258], vm := .none },
  { cls := 18, slots := #[.int (-128)], vm := .none },
  { cls := 18, slots := #[.int (-127)], vm := .none },
  { cls := 18, slots := #[.int (-126)], vm := .none },
  { cls := 18, slots := #[.int (-125)], vm := .none },
  { cls := 18, slots := #[.int (-124)], vm := .none },
  { cls := 18, slots := #[.int (-123)], vm := .none },
  { cls := 18, slots := #[.int (-122)], vm := .none },
  { cls := 18, slots := #[.int (-121)], vm := .none },
  { cls := 18, slots := #[.int (-120)], vm := .none },
  { cls := 18, slots := #[.int (-119)], vm := .none },
  { cls := 18, slots := #[.int (-118)], vm := .none },
  { cls := 18, slots := #[.int (-117)], vm := .none },
  { cls := 18, slots := #[.int (-116)], vm := .none },
  { cls := 18, slots := #[.int (-115)], vm := .none },
  { cls := 18, slots := #[.int (-114)], vm := .none },
  { cls := 18, slots := #[.int (-113)], vm := .none },
  { cls := 18, slots := #[.int (-112)], vm := .none },
  { cls := 18, slots := #[.int (-111)], vm := .none },
  { cls := 18, slots := #[.int (-110)], vm := .none },
  { cls := 18, slots := #[.int (-109)], vm := .none },
  { cls := 18, slots := #[.int (-108)], vm := .none },
  { cls := 18, slots := #[.int (-107)], vm := .none },
  { cls := 18, slots := #[.int (-106)], vm := .none },
  { cls := 18, slots := #[.int (-105)], vm := .none },
  { cls := 18, slots := #[.int (-104)], vm := .none },
  { cls := 18, slots := #[.int (-103)], vm := .none },
  { cls := 18, slots := #[.int (-102)], vm := .none },
  { cls := 18, slots := #[.int (-101)], vm := .none },
  { cls := 18, slots := #[.int (-100)], vm := .none },
  { cls := 18, slots := #[.int (-99)], vm := .none },
  { cls := 18, slots := #[.int (-98)], vm := .none },
  { cls := 18, slots := #[.int (-97)], vm := .none },
  { cls := 18, slots := #[.int (-96)], vm := .none },
  { cls := 18, slots := #[.int (-95)], vm := .none },
  { cls := 18, slots := #[.int (-94)], vm := .none },
  { cls := 18, slots := #[.int (-93)], vm := .none },
  { cls := 18, slots := #[.int (-92)], vm := .none },
  { cls := 18, slots := #[.int (-91)], vm := .none },
  { cls := 18, slots := #[.int (-90)], vm := .none },
  { cls := 18, slots := #[.int (-89)], vm := .none },
  { cls := 18, slots := #[.int (-88)], vm := .none },
  { cls := 18, slots := #[.int (-87)], vm := .none },
  { cls := 18, slots := #[.int (-86)], vm := .none },
  { cls := 18, slots := #[.int (-85)], vm := .none },
  { cls := 18, slots := #[.int (-84)], vm := .none },
  { cls := 18, slots := #[.int (-83)], vm := .none },
  { cls := 18, slots := #[.int (-82)], vm := .none },
  { cls := 18, slots := #[.int (-81)], vm := .none },
  { cls := 18, slots := #[.int (-80)], vm := .none },
  { cls := 18, slots := #[.int (-79)], vm := .none },
  { cls := 18, slots := #[.int (-78)], vm := .none },
  { cls := 18, slots := #[.int (-77)], vm := .none },
  { cls := 18, slots := #[.int (-76)], vm := .none },
  { cls := 18, slots := #[.int (-75)], vm := .none },
  { cls := 18, slots := #[.int (-74)], vm := .none },
  { cls := 18, slots := #[.int (-73)], vm := .none },
  { cls := 18, slots := #[.int (-72)], vm := .none },
  { cls := 18, slots := #[.int (-71)], vm := .none },
  { cls := 18, slots := #[.int (-70)], vm := .none },
  { cls := 18, slots := #[.int (-69)], vm := .none },
  { cls := 18, slots := #[.int (-68)], vm := .none },
  { cls := 18, slots := #[.int (-67)], vm := .none },
  { cls := 18, slots := #[.int (-66)], vm := .none },
  { cls := 18, slots := #[.int (-65)], vm := .none },
  { cls := 18, slots := #[.int (-64)], vm := .none },
  { cls := 18, slots := #[.int (-63)], vm := .none },
  { cls := 18, slots := #[.int (-62)], vm := .none },
  { cls := 18, slots := #[.int (-61)], vm := .none },
  { cls := 18, slots := #[.int (-60)], vm := .none },
  { cls := 18, slots := #[.int (-59)], vm := .none },
  { cls := 18, slots := #[.int (-58)], vm := .none },
  { cls := 18, slots := #[.int (-57)], vm := .none },
  { cls := 18, slots := #[.int (-56)], vm := .none },
  { cls := 18, slots := #[.int (-55)], vm := .none },
  { cls := 18, slots := #[.int (-54)], vm := .none },
  { cls := 18, slots := #[.int (-53)], vm := .none },
  { cls := 18, slots := #[.int (-52)], vm := .none },
  { cls := 18, slots := #[.int (-51)], vm := .none },
  { cls := 18, slots := #[.int (-50)], vm := .none },
  { cls := 18, slots := #[.int (-49)], vm := .none },
  { cls := 18, slots := #[.int (-48)], vm := .none },
  { cls := 18, slots := #[.int (-47)], vm := .none },
  { cls := 18, slots := #[.int (-46)], vm := .none },
  { cls := 18, slots := #[.int (-45)], vm := .none },
  { cls := 18, slots := #[.int (-44)], vm := .none },
  { cls := 18, slots := #[.int (-43)], vm := .none },
  { cls := 18, slots := #[.int (-42)], vm := .none },
  { cls := 18, slots := #[.int (-41)], vm := .none },
  { cls := 18, slots := #[.int (-40)], vm := .none },
  { cls := 18, slots := #[.int (-39)], vm := .none },
  { cls := 18, slots := #[.int (-38)], vm := .none },
  { cls := 18, slots := #[.int (-37)], vm := .none },
  { cls := 18, slots := #[.int (-36)], vm := .none },
  { cls := 18, slots := #[.int (-35)], vm := .none },
  { cls := 18, slots := #[.int (-34)], vm := .none },
  { cls := 18, slots := #[.int (-33)], vm := .none },
  { cls := 18, slots := #[.int (-32)], vm := .none },
  { cls := 18, slots := #[.int (-31)], vm := .none },
  { cls := 18, slots := #[.int (-30)], vm := .none },
  { cls := 18, slots := #[.int (-29)], vm := .none },
  { cls := 18, slots := #[.int (-28)], vm := .none },
  { cls := 18, slots := #[.int (-27)], vm := .none },
  { cls := 18, slots := #[.int (-26)], vm := .none },
  { cls := 18, slots := #[.int (-25)], vm := .none },
  { cls := 18, slots := #[.int (-24)], vm := .none },
  { cls := 18, slots := #[.int (-23)], vm := .none },
  { cls := 18, slots := #[.int (-22)], vm := .none },
  { cls := 18, slots := #[.int (-21)], vm := .none },
  { cls := 18, slots := #[.int (-20)], vm := .none },
  { cls := 18, slots := #[.int (-19)], vm := .none },
  { cls := 18, slots := #[.int (-18)], vm := .none },
  { cls := 18, slots := #[.int (-17)], vm := .none },
  { cls := 18, slots := #[.int (-16)], vm := .none },
  { cls := 18, slots := #[.int (-15)], vm := .none },
  { cls := 18, slots := #[.int (-14)], vm := .none },
  { cls := 18, slots := #[.int (-13)], vm := .none },
  { cls := 18, slots := #[.int (-12)], vm := .none },
  { cls := 18, slots := #[.int (-11)], vm := .none },
  { cls := 18, slots := #[.int (-10)], vm := .none },
  { cls := 18, slots := #[.int (-9)], vm := .none },
  { cls := 18, slots := #[.int (-8)], vm := .none },
  { cls := 18, slots := #[.int (-7)], vm := .none },
  { cls := 18, slots := #[.int (-6)], vm := .none },
  { cls := 18, slots := #[.int (-5)], vm := .none },
  { cls := 18, slots := #[.int (-4)], vm := .none },
  { cls := 18, slots := #[.int (-3)], vm := .none },
  { cls := 18, slots := #[.int (-2)], vm := .none },
  { cls := 18, slots := #[.int (-1)], vm := .none },
  { cls := 18, slots := #[.int 0], vm := .none },
  { cls := 18, slots := #[.int 1], vm := .none },
  { cls := 18, slots := #[.int 2], vm := .none },
  { cls := 18, slots := #[.int 3], vm := .none },
  { cls := 18, slots := #[.int 4], vm := .none },
  { cls := 18, slots := #[.int 5], vm := .none },
  { cls := 18, slots := #[.int 6], vm := .none },
  { cls := 18, slots := #[.int 7], vm := .none },
  { cls := 18, slots := #[.int 8], vm := .none },
  { cls := 18, slots := #[.int 9], vm := .none },
  { cls := 18, slots := #[.int 10], vm := .none },
  { cls := 18, slots := #[.int 11], vm := .none },
  { cls := 18, slots := #[.int 12], vm := .none },
  { cls := 18, slots := #[.int 13], vm := .none },
  { cls := 18, slots := #[.int 14], vm := .none },
  { cls := 18, slots := #[.int 15], vm := .none },
  { cls := 18, slots := #[.int 16], vm := .none },
  { cls := 18, slots := #[.int 17], vm := .none },
  { cls := 18, slots := #[.int 18], vm := .none },
  { cls := 18, slots := #[.int 19], vm := .none },
  { cls := 18, slots := #[.int 20], vm := .none },
  { cls := 18, slots := #[.int 21], vm := .none },
  { cls := 18, slots := #[.int 22], vm := .none },
  { cls := 18, slots := #[.int 23], vm := .none },
  { cls := 18, slots := #[.int 24], vm := .none },
  { cls := 18, slots := #[.int 25], vm := .none },
  { cls := 18, slots := #[.int 26], vm := .none },
  { cls := 18, slots := #[.int 27], vm := .none },
  { cls := 18, slots := #[.int 28], vm := .none },
  { cls := 18, slots := #[.int 29], vm := .none },
  { cls := 18, slots := #[.int 30], vm := .none },
  { cls := 18, slots := #[.int 31], vm := .none },
  { cls := 18, slots := #[.int 32], vm := .none },
  { cls := 18, slots := #[.int 33], vm := .none },
  { cls := 18, slots := #[.int 34], vm := .none },
  { cls := 18, slots := #[.int 35], vm := .none },
  { cls := 18, slots := #[.int 36], vm := .none },
  { cls := 18, slots := #[.int 37], vm := .none },
  { cls := 18, slots := #[.int 38], vm := .none },
  { cls := 18, slots := #[.int 39], vm := .none },
  { cls := 18, slots := #[.int 40], vm := .none },
  { cls := 18, slots := #[.int 41], vm := .none },
  { cls := 18, slots := #[.int 42], vm := .none },
  { cls := 18, slots := #[.int 43], vm := .none },
  { cls := 18, slots := #[.int 44], vm := .none },
  { cls := 18, slots := #[.int 45], vm := .none },
  { cls := 18, slots := #[.int 46], vm := .none },
  { cls := 18, slots := #[.int 47], vm := .none },
  { cls := 18, slots := #[.int 48], vm := .none },
  { cls := 18, slots := #[.int 49], vm := .none },
  { cls := 18, slots := #[.int 50], vm := .none },
  { cls := 18, slots := #[.int 51], vm := .none },
  { cls := 18, slots := #[.int 52], vm := .none },
  { cls := 18, slots := #[.int 53], vm := .none },
  { cls := 18, slots := #[.int 54], vm := .none },
  { cls := 18, slots := #[.int 55], vm := .none },
  { cls := 18, slots := #[.int 56], vm := .none },
  { cls := 18, slots := #[.int 57], vm := .none },
  { cls := 18, slots := #[.int 58], vm := .none },
  { cls := 18, slots := #[.int 59], vm := .none },
  { cls := 18, slots := #[.int 60], vm := .none },
  { cls := 18, slots := #[.int 61], vm := .none },
  { cls := 18, slots := #[.int 62], vm := .none },
  { cls := 18, slots := #[.int 63], vm := .none },
  { cls := 18, slots := #[.int 64], vm := .none },
  { cls := 18, slots := #[.int 65], vm := .none },
  { cls := 18, slots := #[.int 66], vm := .none },
  { cls := 18, slots := #[.int 67], vm := .none },
  { cls := 18, slots := #[.int 68], vm := .none },
  { cls := 18, slots := #[.int 69], vm := .none },
  { cls := 18, slots := #[.int 70], vm := .none },
  { cls := 18, slots := #[.int 71], vm := .none },
  { cls := 18, slots := #[.int 72], vm := .none },
  { cls := 18, slots := #[.int 73], vm := .none },
  { cls := 18, slots := #[.int 74], vm := .none },
  { cls := 18, slots := #[.int 75], vm := .none },
  { cls := 18, slots := #[.int 76], vm := .none },
  { cls := 18, slots := #[.int 77], vm := .none },
  { cls := 18, slots := #[.int 78], vm := .none },
  { cls := 18, slots := #[.int 79], vm := .none },
  { cls := 18, slots := #[.int 80], vm := .none },
  { cls := 18, slots := #[.int 81], vm := .none },
  { cls := 18, slots := #[.int 82], vm := .none },
  { cls := 18, slots := #[.int 83], vm := .none },
  { cls := 18, slots := #[.int 84], vm := .none },
  { cls := 18, slots := #[.int 85], vm := .none },
  { cls := 18, slots := #[.int 86], vm := .none },
  { cls := 18, slots := #[.int 87], vm := .none },
  { cls := 18, slots := #[.int 88], vm := .none },
  { cls := 18, slots := #[.int 89], vm := .none },
  { cls := 18, slots := #[.int 90], vm := .none },
  { cls := 18, slots := #[.int 91], vm := .none },
  { cls := 18, slots := #[.int 92], vm := .none },
  { cls := 18, slots := #[.int 93], vm := .none },
  { cls := 18, slots := #[.int 94], vm := .none },
  { cls := 18, slots := #[.int 95], vm := .none },
  { cls := 18, slots := #[.int 96], vm := .none },
  { cls := 18, slots := #[.int 97], vm := .none },
  { cls := 18, slots := #[.int 98], vm := .none },
  { cls := 18, slots := #[.int 99], vm := .none },
  { cls := 18, slots := #[.int 100], vm := .none },
  { cls := 18, slots := #[.int 101], vm := .none },
  { cls := 18, slots := #[.int 102], vm := .none },
  { cls := 18, slots := #[.int 103], vm := .none },
  { cls := 18, slots := #[.int 104], vm := .none },
  { cls := 18, slots := #[.int 105], vm := .none },
  { cls := 18, slots := #[.int 106], vm := .none },
  { cls := 18, slots := #[.int 107], vm := .none },
  { cls := 18, slots := #[.int 108], vm := .none },
  { cls := 18, slots := #[.int 109], vm := .none },
  { cls := 18, slots := #[.int 110], vm := .none },
  { cls := 18, slots := #[.int 111], vm := .none },
  { cls := 18, slots := #[.int 112], vm := .none },
  { cls := 18, slots := #[.int 113], vm := .none },
  { cls := 18, slots := #[.int 114], vm := .none },
  { cls := 18, slots := #[.int 115], vm := .none },
  { cls := 18, slots := #[.int 116], vm := .none },
  { cls := 18, slots := #[.int 117], vm := .none },
  { cls := 18, slots := #[.int 118], vm := .none },
  { cls := 18, slots := #[.int 119], vm := .none },
  { cls := 18, slots := #[.int 120], vm := .none },
  { cls := 18, slots := #[.int 121], vm := .none },
  { cls := 18, slots := #[.int 122], vm := .none },
  { cls := 18, slots := #[.int 123], vm := .none },
  { cls := 18, slots := #[.int 124], vm := .none },
  { cls := 18, slots := #[.int 125], vm := .none },
  { cls := 18, slots := #[.int 126], vm := .none },
  { cls := 18, slots := #[.int 127], vm := .none },
  { cls := 28, slots := #[], vm := .none },
  { cls := 28, slots := #[], vm := .none }]
def classes : Array Class := #[k0, k1, k2, k3, k4, k5, k6, k7, k8, k9, k10, k11, k12, k13, k14, k15, k16, k17, k18, k19, k20, k21, k22, k23, k24, k25, k26, k27, k28]
def interned : List (Array UInt16 × Addr) := []
def slotsUsed : Nat := 521
def theMethod : MethodId := ⟨1, 1⟩
def args0 : Array Value := #[.int 5, .int 6, .int 3, .int 7, .int 9]
def aboutOver (below : List Frame) : State where
  vm := { classes := classes, interned := interned.toArray }
  heap := heap
  slotsUsed := slotsUsed
  threads := #[{ frames := .invoking theMethod args0 :: below }]
def below0 : List Frame := [.native { method := ⟨0, 0⟩, args := #[] }]
def about1 : State := aboutOver below0
def p0 : Program := .bare "" "" ""
def e0 : Env := launch0.env 0 0 0
theorem w_frames : about1.frames = Frame.invoking theMethod args0 :: below0 := rfl
set_option maxRecDepth 65536 in
theorem w_args : argsFit about1.vm theMethod args0 = true := by decide +kernel
set_option maxRecDepth 65536 in
theorem w_heap : heapFits about1 = true := by decide +kernel
set_option maxRecDepth 65536 in
theorem w_runnable : about1.curStatus? = some .runnable := by decide +kernel
set_option maxRecDepth 65536 in
theorem w_alone : about1.alone = true := by decide +kernel
set_option maxRecDepth 65536 in
theorem w_named : about1.methodNamed? x = some theMethod := by decide +kernel
set_option maxRecDepth 65536 in
theorem w_hears : about1.hears theMethod below0 = true := by decide +kernel
set_option maxRecDepth 65536 in
theorem w_ripe : about1.ripe theMethod args0 below0 = true := by decide +kernel
theorem w_running : about1.status = .running := rfl
set_option maxRecDepth 65536 in
theorem w_room : about1.hasRoom e0.platform room_1 = true :=
  launch0.hasRoom_least _ room_1 (by decide +kernel) (by decide +kernel) (by decide +kernel) (by decide +kernel) (by decide +kernel) (by decide +kernel)
theorem allAtoms_all (ts : List Jvm.Cond) (a : Array Jvm.Value) (st : Jvm.State) : (allAtoms ts).before a st = ts.all (fun c => c.before a st) := by
  induction ts with
  | nil => rfl
  | cons c t ih =>
    show (Jvm.Cond.and c (allAtoms t)).before a st = _
    rw [Jvm.Cond.before_and, ih, List.all_cons]
def words1 : List Jvm.Cond := Jvm.Cond.code x code maxLocals ret :: tables_1
/-- a 'code' word, met by the world's own term for the bytes: nothing is compared byte by byte -/
theorem code_word {y : MethodName} {bytes : ByteArray} {mx : Nat} {rt : Option FieldType} {a : Array Value} {s : State} {m : MethodId} {meth : Method} {c : Code} (h1 : s.methodNamed? y = some m) (h2 : s.vm.method? m = some meth) (h3 : meth.code = some c) (h4 : c.code = bytes)
    (h5 : (c.maxLocals == mx && c.exceptionTable.isEmpty && decide (c.maxStack ≤ mostOperands) && decide (meth.sig.returnType = rt) && !meth.locks && decide (parseMethodDescriptor y.desc = some meth.sig)) = true) : (Jvm.Cond.code y bytes mx rt).before a s = true := by
  simp only [Bool.and_eq_true, beq_iff_eq, Bool.not_eq_true', decide_eq_true_eq] at h5
  obtain ⟨⟨⟨⟨⟨g1, g2⟩, g3⟩, g4⟩, g5⟩, g6⟩ := h5
  simp [Cond.before, Cond.holds, Cond.value, h1, h2, h3, h4, g1, g2, g3, g4, g5, g6]
def isCode : Jvm.Cond → Bool
  | .code _ _ _ _ => true
  | _ => false
theorem all_split {L : List Jvm.Cond} {P : Jvm.Cond → Bool} (h1 : L.all (fun c => isCode c || P c) = true) (h2 : ∀ c ∈ L.filter isCode, P c = true) : L.all P = true := by
  refine List.all_eq_true.mpr fun c hc => ?_
  have h := List.all_eq_true.mp h1 c hc
  rcases Bool.eq_false_or_eq_true (isCode c) with hi | hi
  · exact h2 c (List.mem_filter.mpr ⟨hc, hi⟩)
  · simpa [hi] using h
set_option maxRecDepth 65536 in
theorem w_c0 : (Jvm.Cond.code x code maxLocals ret).before args0 about1 = true := code_word (m := ⟨1, 1⟩) (meth := k1m1) (c := k1c1) (by decide +kernel) rfl rfl rfl (by decide +kernel)
set_option maxRecDepth 65536 in
theorem w_c1 : (Jvm.Cond.code ({ cls := "java/util/ArrayList", name := "<init>", desc := "()V" } : Jvm.MethodName) jdk_38_method_2_code (1 : Nat) (Option.none : Option Jvm.ClassFile.FieldType)).before args0 about1 = true := code_word (m := ⟨11, 0⟩) (meth := k11m0) (c := k11c0) (by decide +kernel) rfl rfl rfl (by decide +kernel)
set_option maxRecDepth 65536 in
theorem w_c2 : (Jvm.Cond.code ({ cls := "java/util/AbstractList", name := "<init>", desc := "()V" } : Jvm.MethodName) jdk_39_method_1_code (1 : Nat) (Option.none : Option Jvm.ClassFile.FieldType)).before args0 about1 = true := code_word (m := ⟨7, 0⟩) (meth := k7m0) (c := k7c0) (by decide +kernel) rfl rfl rfl (by decide +kernel)
set_option maxRecDepth 65536 in
theorem w_c3 : (Jvm.Cond.code ({ cls := "java/util/AbstractCollection", name := "<init>", desc := "()V" } : Jvm.MethodName) jdk_22_method_1_code (1 : Nat) (Option.none : Option Jvm.ClassFile.FieldType)).before args0 about1 = true := code_word (m := ⟨4, 0⟩) (meth := k4m0) (c := k4c0) (by decide +kernel) rfl rfl rfl (by decide +kernel)
set_option maxRecDepth 65536 in
theorem w_c4 : (Jvm.Cond.code ({ cls := "java/lang/Object", name := "<init>", desc := "()V" } : Jvm.MethodName) object_method_1_code (1 : Nat) (Option.none : Option Jvm.ClassFile.FieldType)).before args0 about1 = true := code_word (m := ⟨0, 0⟩) (meth := k0m0) (c := k0c0) (by decide +kernel) rfl rfl rfl (by decide +kernel)
set_option maxRecDepth 65536 in
theorem w_c5 : (Jvm.Cond.code ({ cls := "com/example/strigine/strigine/Roles$Chain", name := "<init>", desc := "(Ljava/util/List;I)V" } : Jvm.MethodName) prog_12_method_1_code (3 : Nat) (Option.none : Option Jvm.ClassFile.FieldType)).before args0 about1 = true := code_word (m := ⟨13, 0⟩) (meth := k13m0) (c := k13c0) (by decide +kernel) rfl rfl rfl (by decide +kernel)
set_option maxRecDepth 65536 in
theorem w_c6 : (Jvm.Cond.code ({ cls := "java/lang/Record", name := "<init>", desc := "()V" } : Jvm.MethodName) jdk_30_method_1_code (1 : Nat) (Option.none : Option Jvm.ClassFile.FieldType)).before args0 about1 = true := code_word (m := ⟨12, 0⟩) (meth := k12m0) (c := k12c0) (by decide +kernel) rfl rfl rfl (by decide +kernel)
set_option maxRecDepth 65536 in
theorem w_c7 : (Jvm.Cond.code ({ cls := "com/example/strigine/strigine/Roles$Chain", name := "isTransitivity", desc := "()Z" } : Jvm.MethodName) prog_12_method_2_code (1 : Nat) (Option.some Jvm.ClassFile.FieldType.boolean)).before args0 about1 = true := code_word (m := ⟨13, 1⟩) (meth := k13m1) (c := k13c1) (by decide +kernel) rfl rfl rfl (by decide +kernel)
set_option maxRecDepth 65536 in
theorem w_c8 : (Jvm.Cond.code ({ cls := "java/util/ArrayList", name := "size", desc := "()I" } : Jvm.MethodName) jdk_38_method_8_code (1 : Nat) (Option.some Jvm.ClassFile.FieldType.int)).before args0 about1 = true := code_word (m := ⟨11, 3⟩) (meth := k11m3) (c := k11c3) (by decide +kernel) rfl rfl rfl (by decide +kernel)
set_option maxRecDepth 65536 in
theorem w_c9 : (Jvm.Cond.code ({ cls := "java/lang/Integer", name := "valueOf", desc := "(I)Ljava/lang/Integer;" } : Jvm.MethodName) jdk_33_method_22_code (1 : Nat) (Option.some (Jvm.ClassFile.FieldType.object "java/lang/Integer"))).before args0 about1 = true := code_word (m := ⟨18, 0⟩) (meth := k18m0) (c := k18c0) (by decide +kernel) rfl rfl rfl (by decide +kernel)
set_option maxRecDepth 65536 in
theorem w_c10 : (Jvm.Cond.code ({ cls := "java/util/ArrayList", name := "add", desc := "(Ljava/lang/Object;)Z" } : Jvm.MethodName) jdk_38_method_25_code (2 : Nat) (Option.some Jvm.ClassFile.FieldType.boolean)).before args0 about1 = true := code_word (m := ⟨11, 7⟩) (meth := k11m7) (c := k11c7) (by decide +kernel) rfl rfl rfl (by decide +kernel)
set_option maxRecDepth 65536 in
theorem w_c11 : (Jvm.Cond.code ({ cls := "java/util/ArrayList", name := "add", desc := "(Ljava/lang/Object;[Ljava/lang/Object;I)V" } : Jvm.MethodName) jdk_38_method_24_code (4 : Nat) (Option.none : Option Jvm.ClassFile.FieldType)).before args0 about1 = true := code_word (m := ⟨11, 6⟩) (meth := k11m6) (c := k11c6) (by decide +kernel) rfl rfl rfl (by decide +kernel)
set_option maxRecDepth 65536 in
theorem w_c12 : (Jvm.Cond.code ({ cls := "java/util/ArrayList", name := "grow", desc := "()[Ljava/lang/Object;" } : Jvm.MethodName) jdk_38_method_7_code (1 : Nat) (Option.some (Jvm.ClassFile.FieldType.array (Jvm.ClassFile.FieldType.object "java/lang/Object")))).before args0 about1 = true := code_word (m := ⟨11, 2⟩) (meth := k11m2) (c := k11c2) (by decide +kernel) rfl rfl rfl (by decide +kernel)
set_option maxRecDepth 65536 in
theorem w_c13 : (Jvm.Cond.code ({ cls := "java/util/ArrayList", name := "grow", desc := "(I)[Ljava/lang/Object;" } : Jvm.MethodName) jdk_38_method_6_code (4 : Nat) (Option.some (Jvm.ClassFile.FieldType.array (Jvm.ClassFile.FieldType.object "java/lang/Object")))).before args0 about1 = true := code_word (m := ⟨11, 1⟩) (meth := k11m1) (c := k11c1) (by decide +kernel) rfl rfl rfl (by decide +kernel)
set_option maxRecDepth 65536 in
theorem w_c14 : (Jvm.Cond.code ({ cls := "java/lang/Math", name := "max", desc := "(II)I" } : Jvm.MethodName) jdk_29_method_65_code (2 : Nat) (Option.some Jvm.ClassFile.FieldType.int)).before args0 about1 = true := code_word (m := ⟨20, 1⟩) (meth := k20m1) (c := k20c1) (by decide +kernel) rfl rfl rfl (by decide +kernel)
set_option maxRecDepth 65536 in
theorem w_c15 : (Jvm.Cond.code ({ cls := "java/lang/Integer", name := "<init>", desc := "(I)V" } : Jvm.MethodName) jdk_33_method_23_code (2 : Nat) (Option.none : Option Jvm.ClassFile.FieldType)).before args0 about1 = true := code_word (m := ⟨18, 1⟩) (meth := k18m1) (c := k18c1) (by decide +kernel) rfl rfl rfl (by decide +kernel)
set_option maxRecDepth 65536 in
theorem w_c16 : (Jvm.Cond.code ({ cls := "java/lang/Number", name := "<init>", desc := "()V" } : Jvm.MethodName) jdk_18_method_1_code (1 : Nat) (Option.none : Option Jvm.ClassFile.FieldType)).before args0 about1 = true := code_word (m := ⟨14, 0⟩) (meth := k14m0) (c := k14c0) (by decide +kernel) rfl rfl rfl (by decide +kernel)
set_option maxRecDepth 65536 in
theorem w_c17 : (Jvm.Cond.code ({ cls := "java/util/ArrayList", name := "get", desc := "(I)Ljava/lang/Object;" } : Jvm.MethodName) jdk_38_method_20_code (2 : Nat) (Option.some (Jvm.ClassFile.FieldType.object "java/lang/Object"))).before args0 about1 = true := code_word (m := ⟨11, 5⟩) (meth := k11m5) (c := k11c5) (by decide +kernel) rfl rfl rfl (by decide +kernel)
set_option maxRecDepth 65536 in
theorem w_c18 : (Jvm.Cond.code ({ cls := "java/util/Objects", name := "checkIndex", desc := "(II)I" } : Jvm.MethodName) jdk_31_method_17_code (2 : Nat) (Option.some Jvm.ClassFile.FieldType.int)).before args0 about1 = true := code_word (m := ⟨21, 1⟩) (meth := k21m1) (c := k21c1) (by decide +kernel) rfl rfl rfl (by decide +kernel)
set_option maxRecDepth 65536 in
theorem w_c19 : (Jvm.Cond.code ({ cls := "jdk/internal/util/Preconditions", name := "checkIndex", desc := "(IILjava/util/function/BiFunction;)I" } : Jvm.MethodName) jdk_41_method_11_code (3 : Nat) (Option.some Jvm.ClassFile.FieldType.int)).before args0 about1 = true := code_word (m := ⟨22, 1⟩) (meth := k22m1) (c := k22c1) (by decide +kernel) rfl rfl rfl (by decide +kernel)
set_option maxRecDepth 65536 in
theorem w_c20 : (Jvm.Cond.code ({ cls := "java/util/ArrayList", name := "elementData", desc := "(I)Ljava/lang/Object;" } : Jvm.MethodName) jdk_38_method_18_code (2 : Nat) (Option.some (Jvm.ClassFile.FieldType.object "java/lang/Object"))).before args0 about1 = true := code_word (m := ⟨11, 4⟩) (meth := k11m4) (c := k11c4) (by decide +kernel) rfl rfl rfl (by decide +kernel)
set_option maxRecDepth 65536 in
theorem w_c21 : (Jvm.Cond.code ({ cls := "java/lang/Integer", name := "intValue", desc := "()I" } : Jvm.MethodName) jdk_33_method_27_code (1 : Nat) (Option.some Jvm.ClassFile.FieldType.int)).before args0 about1 = true := code_word (m := ⟨18, 2⟩) (meth := k18m2) (c := k18c2) (by decide +kernel) rfl rfl rfl (by decide +kernel)
def codes1 : List Jvm.Cond := [Jvm.Cond.code x code maxLocals ret, Jvm.Cond.code ({ cls := "java/util/ArrayList", name := "<init>", desc := "()V" } : Jvm.MethodName) jdk_38_method_2_code (1 : Nat) (Option.none : Option Jvm.ClassFile.FieldType), Jvm.Cond.code ({ cls := "java/util/AbstractList", name := "<init>", desc := "()V" } : Jvm.MethodName) jdk_39_method_1_code (1 : Nat) (Option.none : Option Jvm.ClassFile.FieldType), Jvm.Cond.code ({ cls := "java/util/AbstractCollection", name := "<init>", desc := "()V" } : Jvm.MethodName) jdk_22_method_1_code (1 : Nat) (Option.none : Option Jvm.ClassFile.FieldType), Jvm.Cond.code ({ cls := "java/lang/Object", name := "<init>", desc := "()V" } : Jvm.MethodName) object_method_1_code (1 : Nat) (Option.none : Option Jvm.ClassFile.FieldType), Jvm.Cond.code ({ cls := "com/example/strigine/strigine/Roles$Chain", name := "<init>", desc := "(Ljava/util/List;I)V" } : Jvm.MethodName) prog_12_method_1_code (3 : Nat) (Option.none : Option Jvm.ClassFile.FieldType), Jvm.Cond.code ({ cls := "java/lang/Record", name := "<init>", desc := "()V" } : Jvm.MethodName) jdk_30_method_1_code (1 : Nat) (Option.none : Option Jvm.ClassFile.FieldType), Jvm.Cond.code ({ cls := "com/example/strigine/strigine/Roles$Chain", name := "isTransitivity", desc := "()Z" } : Jvm.MethodName) prog_12_method_2_code (1 : Nat) (Option.some Jvm.ClassFile.FieldType.boolean), Jvm.Cond.code ({ cls := "java/util/ArrayList", name := "size", desc := "()I" } : Jvm.MethodName) jdk_38_method_8_code (1 : Nat) (Option.some Jvm.ClassFile.FieldType.int), Jvm.Cond.code ({ cls := "java/lang/Integer", name := "valueOf", desc := "(I)Ljava/lang/Integer;" } : Jvm.MethodName) jdk_33_method_22_code (1 : Nat) (Option.some (Jvm.ClassFile.FieldType.object "java/lang/Integer")), Jvm.Cond.code ({ cls := "java/util/ArrayList", name := "add", desc := "(Ljava/lang/Object;)Z" } : Jvm.MethodName) jdk_38_method_25_code (2 : Nat) (Option.some Jvm.ClassFile.FieldType.boolean), Jvm.Cond.code ({ cls := "java/util/ArrayList", name := "add", desc := "(Ljava/lang/Object;[Ljava/lang/Object;I)V" } : Jvm.MethodName) jdk_38_method_24_code (4 : Nat) (Option.none : Option Jvm.ClassFile.FieldType), Jvm.Cond.code ({ cls := "java/util/ArrayList", name := "grow", desc := "()[Ljava/lang/Object;" } : Jvm.MethodName) jdk_38_method_7_code (1 : Nat) (Option.some (Jvm.ClassFile.FieldType.array (Jvm.ClassFile.FieldType.object "java/lang/Object"))), Jvm.Cond.code ({ cls := "java/util/ArrayList", name := "grow", desc := "(I)[Ljava/lang/Object;" } : Jvm.MethodName) jdk_38_method_6_code (4 : Nat) (Option.some (Jvm.ClassFile.FieldType.array (Jvm.ClassFile.FieldType.object "java/lang/Object"))), Jvm.Cond.code ({ cls := "java/lang/Math", name := "max", desc := "(II)I" } : Jvm.MethodName) jdk_29_method_65_code (2 : Nat) (Option.some Jvm.ClassFile.FieldType.int), Jvm.Cond.code ({ cls := "java/lang/Integer", name := "<init>", desc := "(I)V" } : Jvm.MethodName) jdk_33_method_23_code (2 : Nat) (Option.none : Option Jvm.ClassFile.FieldType), Jvm.Cond.code ({ cls := "java/lang/Number", name := "<init>", desc := "()V" } : Jvm.MethodName) jdk_18_method_1_code (1 : Nat) (Option.none : Option Jvm.ClassFile.FieldType), Jvm.Cond.code ({ cls := "java/util/ArrayList", name := "get", desc := "(I)Ljava/lang/Object;" } : Jvm.MethodName) jdk_38_method_20_code (2 : Nat) (Option.some (Jvm.ClassFile.FieldType.object "java/lang/Object")), Jvm.Cond.code ({ cls := "java/util/Objects", name := "checkIndex", desc := "(II)I" } : Jvm.MethodName) jdk_31_method_17_code (2 : Nat) (Option.some Jvm.ClassFile.FieldType.int), Jvm.Cond.code ({ cls := "jdk/internal/util/Preconditions", name := "checkIndex", desc := "(IILjava/util/function/BiFunction;)I" } : Jvm.MethodName) jdk_41_method_11_code (3 : Nat) (Option.some Jvm.ClassFile.FieldType.int), Jvm.Cond.code ({ cls := "java/util/ArrayList", name := "elementData", desc := "(I)Ljava/lang/Object;" } : Jvm.MethodName) jdk_38_method_18_code (2 : Nat) (Option.some (Jvm.ClassFile.FieldType.object "java/lang/Object")), Jvm.Cond.code ({ cls := "java/lang/Integer", name := "intValue", desc := "()I" } : Jvm.MethodName) jdk_33_method_27_code (1 : Nat) (Option.some Jvm.ClassFile.FieldType.int)]
set_option maxRecDepth 65536 in
theorem codes_eq : words1.filter isCode = codes1 := rfl
theorem w_codes : ∀ c ∈ words1.filter isCode, c.before args0 about1 = true := by
  rw [codes_eq]
  intro c hc
  simp only [codes1, List.mem_cons, List.not_mem_nil, or_false] at hc
  rcases hc with rfl | rfl | rfl | rfl | rfl | rfl | rfl | rfl | rfl | rfl | rfl | rfl | rfl | rfl | rfl | rfl | rfl | rfl | rfl | rfl | rfl | rfl
  · exact w_c0
  · exact w_c1
  · exact w_c2
  · exact w_c3
  · exact w_c4
  · exact w_c5
  · exact w_c6
  · exact w_c7
  · exact w_c8
  · exact w_c9
  · exact w_c10
  · exact w_c11
  · exact w_c12
  · exact w_c13
  · exact w_c14
  · exact w_c15
  · exact w_c16
  · exact w_c17
  · exact w_c18
  · exact w_c19
  · exact w_c20
  · exact w_c21
set_option maxRecDepth 65536 in
theorem w_t1 : (words1.take 24).all (fun c => isCode c || c.before args0 about1) = true := by decide +kernel
set_option maxRecDepth 65536 in
theorem w_t2 : ((words1.drop 24).take 24).all (fun c => isCode c || c.before args0 about1) = true := by decide +kernel
set_option maxRecDepth 65536 in
theorem w_t3 : (((words1.drop 24).drop 24).take 24).all (fun c => isCode c || c.before args0 about1) = true := by decide +kernel
set_option maxRecDepth 65536 in
theorem w_t4 : ((((words1.drop 24).drop 24).drop 24).take 24).all (fun c => isCode c || c.before args0 about1) = true := by decide +kernel
set_option maxRecDepth 65536 in
theorem w_t5 : (((((words1.drop 24).drop 24).drop 24).drop 24).take 24).all (fun c => isCode c || c.before args0 about1) = true := by decide +kernel
set_option maxRecDepth 65536 in
theorem w_t6 : (((((words1.drop 24).drop 24).drop 24).drop 24).drop 24).all (fun c => isCode c || c.before args0 about1) = true := by decide +kernel
theorem w_tables : (allAtoms (Jvm.Cond.code x code maxLocals ret :: tables_1)).before args0 about1 = true := by
  rw [allAtoms_all]
  show words1.all (fun c => c.before args0 about1) = true
  refine all_split ?_ w_codes
  rw [← List.take_append_drop 24 words1, List.all_append, w_t1, ← List.take_append_drop 24 (words1.drop 24), List.all_append, w_t2, ← List.take_append_drop 24 ((words1.drop 24).drop 24), List.all_append, w_t3, ← List.take_append_drop 24 (((words1.drop 24).drop 24).drop 24), List.all_append, w_t4, ← List.take_append_drop 24 ((((words1.drop 24).drop 24).drop 24).drop 24), List.all_append, w_t5, w_t6]
  rfl
set_option maxRecDepth 65536 in
theorem w_rest : rest_1_c.before args0 about1 = true := by decide +kernel
set_option maxRecDepth 65536 in
theorem w_case : (Jvm.Cond.and given_1 narrow_1).before args0 about1 = true := by decide +kernel
theorem w_applies : (headSpec (Jvm.Cond.code x code maxLocals ret :: tables_1) room_1).applies x e0.platform about1 = true :=
  (Spec.applies_iff w_frames).mpr ⟨w_running, w_runnable, w_alone, w_named, w_hears, w_ripe, w_room, w_tables⟩
theorem atStart : AtStart classFile x code maxLocals ret World_1 tables_1 room_1 Calls_1 rest_1 Pre_1 launch0 p0 e0 about1 theMethod args0 below0 :=
  ⟨lists_1, trivial, launch0.admits_env _ _ _, launch0.least_env, fairChoices_fair.cas, fairChoices_fair.clock, w_frames, w_args, w_heap, w_applies, trivial, w_rest, w_case⟩
end start1
theorem witness_1 : WitnessClaimed_1 := ⟨start1.p0, start1.e0, start1.about1, start1.theMethod, start1.args0, start1.below0, start1.atStart⟩
end Jvm.Pilot.@@N@@
