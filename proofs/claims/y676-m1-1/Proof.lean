import JvmDerived
import JvmDerived.Pilot.@@N@@Statement
import JvmDerived.Pilot.@@N@@Code
set_option linter.unusedVariables false
set_option linter.unusedSimpArgs false
@@BLOCK:NumsL.lean.txt@@
namespace Jvm.Pilot.@@N@@
open Jvm Jvm.ClassFile Sem Op Lib Jvm.Free Jvm.Stand Jvm.LawKit Jvm.RoadKit Bundle Jvm.Pilot.@@N@@.Jvm.D
/-! the goal that a walk carries along: from this state the run comes to the method's end, and Q holds there -/
def own_G (tb : Tables) (e : Env) (below : List Frame) (s : State) (Q : Option Value → Heap → List Loc → Prop) (kc ks : Nat) (st : State) : Prop :=
  ∃ u o, Steps tb e below st u ∧ u.status = .running ∧ Ended u below o ∧ ∃ v L, o = .returned v ∧ Q v u.heap L ∧ FrameEnd s o u L kc ks
theorem own_in {tb : Tables} {e : Env} {below : List Frame} {s : State} {Q : Option Value → Heap → List Loc → Prop} {kc ks : Nat} {st : State} (h : own_G tb e below s Q kc ks st) :
    ∃ u o, Steps tb e below st u ∧ u.status = .running ∧ Ended u below o ∧ ∃ v L, o = .returned v ∧ Q v u.heap L ∧ FrameEnd s o u L kc ks := h
theorem own_st {tb : Tables} {e : Env} {below : List Frame} {s : State} {Q : Option Value → Heap → List Loc → Prop} {kc ks : Nat} {a b : State} (k : ∀ t, Steps tb e below b t → Steps tb e below a t) (h : own_G tb e below s Q kc ks b) : own_G tb e below s Q kc ks a := by
  obtain ⟨u, o, h1, h2⟩ := h; exact ⟨u, o, k u h1, h2⟩
section OwnRet
variable {p : Program} {l : Launch} {e : Env} {R : Room} {s : State} {m : MethodId} {args : Array Value} {below : List Frame} {meth : Method} {c : Code} {T : State} {locs : List Loc} {cells slots : Nat} {Q : Option Value → Heap → List Loc → Prop} {kc ks : Nat} {pc : Nat} {Ls : Array Slot} {rest : List Value}
theorem own_ret (X : Stand p l e R s m args below meth c T locs cells slots) {v : Option Value} (hv : meth.sig.returnType = none → v = none) (hlk : meth.locks = false) (hc : cells ≤ kc) (hs : slots ≤ ks) (hQ : Q v T.heap locs) {st : State}
    (step : ∀ fs, (∀ (f : JFrame) (acts : List Action), f.method = m → f.locked = none → f.entered = [] → (doReturn e (T.setTop f) acts v).1 = T.setFrames fs) → Steps p.tables e below st (T.setFrames fs)) : own_G p.tables e below s Q kc ks st := by
  obtain ⟨fs, hr, hrun, hended, hW, hsame⟩ := X.leave (v := v) hv hlk
  exact ⟨_, _, step fs hr, hrun, hended, _, _, rfl, hQ, ⟨_, rfl⟩, hW, hsame.mono hc hs⟩
theorem own_retV (X : Stand p l e R s m args below meth c T locs cells slots) (hx : p.tables.exec = Jvm.exec) (hret : meth.sig.returnType = none) (hlk : meth.locks = false) (hd : decode c.code pc = .ok (.return_, 1)) (hc : cells ≤ kc) (hs : slots ≤ ks) (hQ : Q none T.heap locs) : own_G p.tables e below s Q kc ks (T.setTop (mkF m pc Ls [])) :=
  own_ret X (v := none) (fun _ => rfl) hlk hc hs hQ fun _ hr => X.returnOut hx hret hd hr
theorem own_retI {z : Int32} (X : Stand p l e R s m args below meth c T locs cells slots) (hx : p.tables.exec = Jvm.exec) (hret : meth.sig.returnType = some .int) (hlk : meth.locks = false) (hd : decode c.code pc = .ok (.ireturn, 1)) (hc : cells ≤ kc) (hs : slots ≤ ks) (hQ : Q (some (.int z)) T.heap locs) : own_G p.tables e below s Q kc ks (T.setTop (mkF m pc Ls (.int z :: rest))) :=
  own_ret X (v := some (.int z)) (fun h => by rw [hret] at h; cases h) hlk hc hs hQ fun _ hr => retOut X hx hret rfl (Or.inl ⟨rfl, Or.inl rfl, z, rfl⟩) hd hr
theorem own_retJ {z : Int64} (X : Stand p l e R s m args below meth c T locs cells slots) (hx : p.tables.exec = Jvm.exec) (hret : meth.sig.returnType = some .long) (hlk : meth.locks = false) (hd : decode c.code pc = .ok (.lreturn, 1)) (hc : cells ≤ kc) (hs : slots ≤ ks) (hQ : Q (some (.long z)) T.heap locs) : own_G p.tables e below s Q kc ks (T.setTop (mkF m pc Ls (.long z :: rest))) :=
  own_ret X (v := some (.long z)) (fun h => by rw [hret] at h; cases h) hlk hc hs hQ fun _ hr => retOut X hx hret rfl (Or.inr (Or.inl ⟨rfl, rfl, z, rfl⟩)) hd hr
theorem own_retA {ft : FieldType} {w : Value} (ht : ft.isReference = true) (hw : w.isRef = true) (X : Stand p l e R s m args below meth c T locs cells slots) (hx : p.tables.exec = Jvm.exec) (hret : meth.sig.returnType = some ft) (hlk : meth.locks = false) (hd : decode c.code pc = .ok (.areturn, 1)) (hc : cells ≤ kc) (hs : slots ≤ ks) (hQ : Q (some w) T.heap locs) : own_G p.tables e below s Q kc ks (T.setTop (mkF m pc Ls (w :: rest))) :=
  own_ret X (v := some w) (fun h => by rw [hret] at h; cases h) hlk hc hs hQ fun _ hr => retOut X hx hret (by cases ft <;> first | (cases ht; done) | (cases w <;> first | rfl | cases hw)) (Or.inr (Or.inr (Or.inr (Or.inr ⟨rfl, ht, hw⟩)))) hd hr
theorem own_retN {t : FieldType} {z : Int32} (ht : t = .boolean ∨ t = .byte ∨ t = .char ∨ t = .short) (X : Stand p l e R s m args below meth c T locs cells slots) (hx : p.tables.exec = Jvm.exec) (hret : meth.sig.returnType = some t) (hlk : meth.locks = false) (hd : decode c.code pc = .ok (.ireturn, 1)) (hc : cells ≤ kc) (hs : slots ≤ ks) (hQ : Q (some (.int (nar t z))) T.heap locs) : own_G p.tables e below s Q kc ks (T.setTop (mkF m pc Ls (.int z :: rest))) :=
  own_ret X (v := some (.int (nar t z))) (fun h => by rw [hret] at h; cases h) hlk hc hs hQ fun _ hr => retN X hx hret ht hd hr
end OwnRet
def own_b (P : Prop) [Decidable P] : Int32 := if P then 1 else 0
theorem own_bT {P : Prop} [Decidable P] (h : P) : some (Value.int (nar .boolean (1 : Int32))) = some (Value.int (own_b P)) := by rw [own_b, if_pos h]; rfl
theorem own_bF {P : Prop} [Decidable P] (h : ¬ P) : some (Value.int (nar .boolean (0 : Int32))) = some (Value.int (own_b P)) := by rw [own_b, if_neg h]; rfl
theorem own_bEq {P P' : Prop} [Decidable P] [Decidable P'] (h : P ↔ P') : own_b P = own_b P' := by simp only [own_b, h]
/-- a body that writes nothing: what it returns, the heap as it was -/
def own_Qp (r : Option Value) (h0 : Heap) (n0 : Nat) (v : Option Value) (h : Heap) (L : List Loc) : Prop := v = r ∧ Fr n0 L ∧ h = h0
/-- the law's own end: it returns 1, nothing old is written -/
def own_Q0 (n0 : Nat) (v : Option Value) (h : Heap) (L : List Loc) : Prop := v = some (.int 1) ∧ Fr n0 L
theorem own_ord {s : State} {args : Array Value} {t : Term} {a : Addr} {C n d : String} {k : Int32} (ev : t.eval args s none [] s = some (.ref a)) (h : (Jvm.Cond.eq (Term.field t C n d) (Term.int k)).value args s none s [] = some true) : Fld s s.heap a C n d (.int k) := by
  obtain ⟨x, y, e1, e2, -, k2⟩ := cmp_v (Or.inl h)
  obtain rfl : Value.int k = y := Option.some.inj e2
  obtain ⟨z, rfl⟩ := k2
  have q : z = k := by simpa [Jvm.Cond.value, e1, e2] using h
  subst q
  exact Fld.start ((fld_at ev).symm.trans e1)
theorem own_len {s : State} {args : Array Value} {t : Term} {a : Addr} {c : Cell} {ty : FieldType} {n : Int32} (ev : t.eval args s none [] s = some (.ref a)) (A : Arr s s.heap a c ty) (h : (Jvm.Cond.eq (Term.length t) (Term.int n)).value args s none s [] = some true) : c.slots.size < 2 ^ 31 ∧ c.slots.size.toInt32 = n := by
  have q := eqv_i (Term.int_eval n) h
  have f := A.fin (Vm.Alike.refl _)
  have z : c.slots.size < 2147483648 ∧ c.slots.size.toInt32 = n := by simpa [Term.eval, ev, f] using q
  exact z
theorem own_eqr {s : State} {args : Array Value} {X F : Term} {y : Addr} (hF : F.eval args s none [] s = some (.ref y)) (h : (Jvm.Cond.eq X F).value args s none s [] = some true) : X.eval args s none [] s = some (.ref y) := by
  obtain ⟨x, y', e1, e2, k1, k2⟩ := cmp_v (Or.inl h)
  cases hF.symm.trans e2
  have hx : x.isRef = true := k2.2
  have q := gotT (eq_R e1 hF hx rfl) h
  rw [q] at e1; exact e1
theorem own_el {s : State} {args : Array Value} {t : Term} {a : Addr} {c : Cell} {ty : FieldType} {j : Int32} {v : Value} (ev : t.eval args s none [] s = some (.ref a)) (A : Arr s s.heap a c ty) (h : (Term.elem t (Term.int j)).eval args s none [] s = some v) : c.slots[j.toNatClampNeg]? = some v := (elem_in h ev (Term.int_eval j) A.1).2
theorem own_nea {Z : State} {h : Heap} {a b : Addr} {C : String} {a0 : Array Value} {k : Nat} {kc : ClassId} {ty : FieldType} {z : Int32} {vs : List Value} {d : Value} (F : Exa Z h a C) (wi : (Jvm.Cond.instantiable C k).before a0 Z = true) (V : Arv Z h b kc ty z vs d) : a ≠ b := by
  obtain ⟨c, A, -⟩ := V; exact ne_arr F wi A
def own_after (cs uq qu aq a : Addr) (c : Int32) : Addr := if a = qu then (if c = 34 then aq else qu) else if c = 44 then cs else if c = 34 then (if a = uq then uq else qu) else uq
def own_at (c0 c1 c2 c3 : Addr) (i : Int32) : Addr := if i = 0 then c0 else if i = 1 then c1 else if i = 2 then c2 else c3
theorem own_i (p : Int32) : (p &&& 3) = 0 ∨ (p &&& 3) = 1 ∨ (p &&& 3) = 2 ∨ (p &&& 3) = 3 := by
  have h := Jvm.Kit.i32_mask p 3 (k := 2) (by decide) (by decide)
  have k : ∀ n : Int32, (p &&& 3) = n ↔ (p &&& 3).toInt = n.toInt := fun n => Int32.toInt_inj.symm
  simp only [k, show (0 : Int32).toInt = 0 from by decide, show (1 : Int32).toInt = 1 from by decide, show (2 : Int32).toInt = 2 from by decide, show (3 : Int32).toInt = 3 from by decide]
  omega
theorem own_rng {i : Int32} (hi : i = 0 ∨ i = 1 ∨ i = 2 ∨ i = 3) : ¬ i < 0 ∧ i < 4 := by rcases hi with rfl | rfl | rfl | rfl <;> decide
theorem own_getd (c0 c1 c2 c3 : Addr) {i : Int32} (hi : i = 0 ∨ i = 1 ∨ i = 2 ∨ i = 3) : [Value.ref c0, .ref c1, .ref c2, .ref c3].getD i.toNatClampNeg .null = .ref (own_at c0 c1 c2 c3 i) := by
  rcases hi with rfl | rfl | rfl | rfl <;> rfl
theorem own_exa {Z : State} {h : Heap} {K : String} {c0 c1 c2 c3 : Addr} (a0 : Exa Z h c0 K) (a1 : Exa Z h c1 K) (a2 : Exa Z h c2 K) (a3 : Exa Z h c3 K) (i : Int32) : Exa Z h (own_at c0 c1 c2 c3 i) K := by
  unfold own_at; split
  · exact a0
  · split
    · exact a1
    · split
      · exact a2
      · exact a3
theorem own_pn0 : plainName "com/example/groveledger/groveledger/CsvPlace" = true := by first | (simp [plainName, overriddenIn]; done) | decide +kernel
theorem own_d1_0 : decode prog_2_method_4_code 0 = .ok (.aload_n 0, 1) := by decide +kernel
theorem own_d1_1 : decode prog_2_method_4_code 1 = .ok (.getstatic 10, 3) := by decide +kernel
theorem own_d1_4 : decode prog_2_method_4_code 4 = .ok (.if_acmp .ne 22, 3) := by decide +kernel
theorem own_d1_7 : decode prog_2_method_4_code 7 = .ok (.iload_n 1, 1) := by decide +kernel
theorem own_d1_8 : decode prog_2_method_4_code 8 = .ok (.bipush 34, 2) := by decide +kernel
theorem own_d1_10 : decode prog_2_method_4_code 10 = .ok (.if_icmp .ne 9, 3) := by decide +kernel
theorem own_d1_13 : decode prog_2_method_4_code 13 = .ok (.getstatic 13, 3) := by decide +kernel
theorem own_d1_16 : decode prog_2_method_4_code 16 = .ok (.goto 6, 3) := by decide +kernel
theorem own_d1_19 : decode prog_2_method_4_code 19 = .ok (.getstatic 10, 3) := by decide +kernel
theorem own_d1_22 : decode prog_2_method_4_code 22 = .ok (.astore_n 2, 1) := by decide +kernel
theorem own_d1_23 : decode prog_2_method_4_code 23 = .ok (.goto 40, 3) := by decide +kernel
theorem own_d1_26 : decode prog_2_method_4_code 26 = .ok (.iload_n 1, 1) := by decide +kernel
theorem own_d1_27 : decode prog_2_method_4_code 27 = .ok (.bipush 44, 2) := by decide +kernel
theorem own_d1_29 : decode prog_2_method_4_code 29 = .ok (.if_icmp .ne 10, 3) := by decide +kernel
theorem own_d1_32 : decode prog_2_method_4_code 32 = .ok (.getstatic 3, 3) := by decide +kernel
theorem own_d1_35 : decode prog_2_method_4_code 35 = .ok (.astore_n 2, 1) := by decide +kernel
theorem own_d1_36 : decode prog_2_method_4_code 36 = .ok (.goto 27, 3) := by decide +kernel
theorem own_d1_39 : decode prog_2_method_4_code 39 = .ok (.iload_n 1, 1) := by decide +kernel
theorem own_d1_40 : decode prog_2_method_4_code 40 = .ok (.bipush 34, 2) := by decide +kernel
theorem own_d1_42 : decode prog_2_method_4_code 42 = .ok (.if_icmp .ne 17, 3) := by decide +kernel
theorem own_d1_45 : decode prog_2_method_4_code 45 = .ok (.aload_n 0, 1) := by decide +kernel
theorem own_d1_46 : decode prog_2_method_4_code 46 = .ok (.getstatic 7, 3) := by decide +kernel
theorem own_d1_49 : decode prog_2_method_4_code 49 = .ok (.if_acmp .eq 10, 3) := by decide +kernel
theorem own_d1_52 : decode prog_2_method_4_code 52 = .ok (.getstatic 10, 3) := by decide +kernel
theorem own_d1_55 : decode prog_2_method_4_code 55 = .ok (.astore_n 2, 1) := by decide +kernel
theorem own_d1_56 : decode prog_2_method_4_code 56 = .ok (.goto 7, 3) := by decide +kernel
theorem own_d1_59 : decode prog_2_method_4_code 59 = .ok (.getstatic 7, 3) := by decide +kernel
theorem own_d1_62 : decode prog_2_method_4_code 62 = .ok (.astore_n 2, 1) := by decide +kernel
theorem own_d1_63 : decode prog_2_method_4_code 63 = .ok (.aload_n 2, 1) := by decide +kernel
theorem own_d1_64 : decode prog_2_method_4_code 64 = .ok (.areturn, 1) := by decide +kernel
theorem own_ef1 (m : MethodId) (a1 : Addr) (p1 : Int32) : entryFrame m #[(.ref a1), (.int p1)] 3 = mkF m 0 #[.val (.ref a1), .val (.int p1), .unset] [] := by first | (simp [entryFrame, mkF, argsToLocals, Value.category]; done) | rfl
set_option maxRecDepth 65536 in
set_option maxHeartbeats 40000000 in
theorem own_rm1 (l : Launch) (Z : State) (a0 : Array Value) (hw : ∀ d ∈ tables_1, d.before a0 Z = true) (ws : List Jvm.Cond) (a1 : Addr) (p1 : Int32) (c_CELL_START c_UNQUOTED c_QUOTED c_AFTER_QUOTE : Addr) (h0 : Heap) (n0 : Nat) (Z0 : n0 ≤ h0.size) (S_CELL_START : Sta Z h0 "com/example/groveledger/groveledger/CsvPlace" "CELL_START" "Lcom/example/groveledger/groveledger/CsvPlace;" (.ref c_CELL_START)) (S_UNQUOTED : Sta Z h0 "com/example/groveledger/groveledger/CsvPlace" "UNQUOTED" "Lcom/example/groveledger/groveledger/CsvPlace;" (.ref c_UNQUOTED)) (S_QUOTED : Sta Z h0 "com/example/groveledger/groveledger/CsvPlace" "QUOTED" "Lcom/example/groveledger/groveledger/CsvPlace;" (.ref c_QUOTED)) (S_AFTER_QUOTE : Sta Z h0 "com/example/groveledger/groveledger/CsvPlace" "AFTER_QUOTE" "Lcom/example/groveledger/groveledger/CsvPlace;" (.ref c_AFTER_QUOTE)) :
    MetFree l (⟨"com/example/groveledger/groveledger/CsvPlace", "after", "(I)Lcom/example/groveledger/groveledger/CsvPlace;"⟩ : MethodName) (head1 (Jvm.Cond.code (⟨"com/example/groveledger/groveledger/CsvPlace", "after", "(I)Lcom/example/groveledger/groveledger/CsvPlace;"⟩ : MethodName) prog_2_method_4_code 3 (some (.object "com/example/groveledger/groveledger/CsvPlace")) :: ws) ({ frames := 0, cells := 0, slots := 0, locals := 0 } : Room)) (fun a U => a = #[(.ref a1), (.int p1)] ∧ Z.Warmed39 U.vm ∧ U.heap = h0) (fun _ _ _ _ _ => True) (fun _ U o U' => ∃ v L, o = .returned v ∧ own_Qp (some (.ref (own_after c_CELL_START c_UNQUOTED c_QUOTED c_AFTER_QUOTE a1 p1))) h0 n0 v U'.heap L ∧ FrameEnd U o U' L ({ frames := 0, cells := 0, slots := 0, locals := 0 } : Room).cells ({ frames := 0, cells := 0, slots := 0, locals := 0 } : Room).slots) := by
  refine MetFree.of_bodySF (plainFor_of_name own_pn0) hisR ?_
  intro p e s m args below meth c s₁ Bd hml0 hP hK
  obtain ⟨rfl, hZ, hh⟩ := hP
  have hx := Bd.exec
  have hby := Bd.bytes
  have hml : c.maxLocals = 3 := hml0
  have hown : s.vm.findClass "com/example/groveledger/groveledger/CsvPlace" = some m.cls := findClass_of_methodNamed Bd.named
  have hnm := (name_of_methodNamed Bd.named Bd.method).1
  have X0 : Stand p l e ({ frames := 0, cells := 0, slots := 0, locals := 0 } : Room) s m #[(.ref a1), (.int p1)] below meth c s₁ [] 0 0 := Stand.of_body Bd
  have e0 : s₁.heap = h0 := by rw [← hh, Bd.state]; rfl
  have N0 := Fr.nil n0
  refine own_in (Q := own_Qp (some (.ref (own_after c_CELL_START c_UNQUOTED c_QUOTED c_AFTER_QUOTE a1 p1))) h0 n0) ?_
  rw [own_ef1]
  show own_G _ _ _ _ _ _ _ (s₁.setTop (mkF m 0 #[.val (.ref a1), .val (.int p1), .unset] []))
  refine own_st (fun t k => XS.aloadN X0.here hx rfl (hb hby own_d1_0) rfl rfl k) ?_
  show own_G _ _ _ _ _ _ _ (s₁.setTop (mkF m 1 #[.val (.ref a1), .val (.int p1), .unset] [(.ref a1)]))
  obtain ⟨T1, X1, e1, st1⟩ := getS2 X0 hx hZ hown (host := "") (Or.inl (hw _ (List.mem_of_getElem? (i := 17) rfl))) Via.refl e0 S_QUOTED (g := (mkF m 1 #[.val (.ref a1), .val (.int p1), .unset] [(.ref a1)])) rfl (hb hby own_d1_1)
  refine own_st (fun t k => st1 t k) ?_
  show own_G _ _ _ _ _ _ _ (T1.setTop (mkF m 4 #[.val (.ref a1), .val (.int p1), .unset] [(.ref c_QUOTED), (.ref a1)]))
  by_cases hq : a1 = c_QUOTED
  · refine own_st (fun t k => Jvm.RoadKit.acmp (g := (mkF m 4 #[.val (.ref a1), .val (.int p1), .unset] [(.ref c_QUOTED), (.ref a1)])) X1 hx rfl rfl rfl (pc0 := 4) (pc' := 7) (same := true) rfl (hb hby own_d1_4) rfl (decide_eq_true (congrArg Value.ref hq)) (by decide) (by decide) k) ?_
    show own_G _ _ _ _ _ _ _ (T1.setTop (mkF m 7 #[.val (.ref a1), .val (.int p1), .unset] []))
    refine own_st (fun t k => XS.iloadN X1.here hx rfl (hb hby own_d1_7) rfl k) ?_
    show own_G _ _ _ _ _ _ _ (T1.setTop (mkF m 8 #[.val (.ref a1), .val (.int p1), .unset] [(.int p1)]))
    refine own_st (fun t k => XS.bipush X1.here hx rfl (hb hby own_d1_8) k) ?_
    show own_G _ _ _ _ _ _ _ (T1.setTop (mkF m 10 #[.val (.ref a1), .val (.int p1), .unset] [(.int (34 : Int32)), (.int p1)]))
    by_cases h34 : p1 = (34 : Int32)
    · refine own_st (fun t k => XS.icmpNo X1.here hx rfl (hb hby own_d1_10) rfl (teq h34).2 k) ?_
      show own_G _ _ _ _ _ _ _ (T1.setTop (mkF m 13 #[.val (.ref a1), .val (.int p1), .unset] []))
      obtain ⟨T2, X2, e2, st2⟩ := getS2 X1 hx hZ hown (host := "") (Or.inl (hw _ (List.mem_of_getElem? (i := 20) rfl))) Via.refl e1 S_AFTER_QUOTE (g := (mkF m 13 #[.val (.ref a1), .val (.int p1), .unset] [])) rfl (hb hby own_d1_13)
      refine own_st (fun t k => st2 t k) ?_
      show own_G _ _ _ _ _ _ _ (T2.setTop (mkF m 16 #[.val (.ref a1), .val (.int p1), .unset] [(.ref c_AFTER_QUOTE)]))
      refine own_st (fun t k => XS.goto X2.here hx rfl (pc0 := 16) (pc' := 22) rfl (hb hby own_d1_16) (by decide) (by decide) k) ?_
      show own_G _ _ _ _ _ _ _ (T2.setTop (mkF m 22 #[.val (.ref a1), .val (.int p1), .unset] [(.ref c_AFTER_QUOTE)]))
      refine own_st (fun t k => XS.astoreN X2.here hx rfl (hb hby own_d1_22) rfl rfl (l' := #[.val (.ref a1), .val (.int p1), .val (.ref c_AFTER_QUOTE)]) rfl k) ?_
      show own_G _ _ _ _ _ _ _ (T2.setTop (mkF m 23 #[.val (.ref a1), .val (.int p1), .val (.ref c_AFTER_QUOTE)] []))
      refine own_st (fun t k => XS.goto X2.here hx rfl (pc0 := 23) (pc' := 63) rfl (hb hby own_d1_23) (by decide) (by decide) k) ?_
      show own_G _ _ _ _ _ _ _ (T2.setTop (mkF m 63 #[.val (.ref a1), .val (.int p1), .val (.ref c_AFTER_QUOTE)] []))
      refine own_st (fun t k => XS.aloadN X2.here hx rfl (hb hby own_d1_63) rfl rfl k) ?_
      show own_G _ _ _ _ _ _ _ (T2.setTop (mkF m 64 #[.val (.ref a1), .val (.int p1), .val (.ref c_AFTER_QUOTE)] [(.ref c_AFTER_QUOTE)]))
      exact own_retA (ft := (.object "com/example/groveledger/groveledger/CsvPlace")) (w := (.ref c_AFTER_QUOTE)) rfl rfl X2 hx Bd.returns (BodyLoose.notSynchronized Bd) (hb hby own_d1_64) (by decide) (by decide) ⟨congrArg (fun z => some (Value.ref z)) (show _ = own_after _ _ _ _ _ _ by simp only [own_after, if_pos hq, if_pos h34]), N0, e2⟩
    · refine own_st (fun t k => XS.icmpYes X1.here hx rfl (pc0 := 10) (pc' := 19) rfl (hb hby own_d1_10) rfl (feq h34).2 (by decide) (by decide) k) ?_
      show own_G _ _ _ _ _ _ _ (T1.setTop (mkF m 19 #[.val (.ref a1), .val (.int p1), .unset] []))
      obtain ⟨T3, X3, e3, st3⟩ := getS2 X1 hx hZ hown (host := "") (Or.inl (hw _ (List.mem_of_getElem? (i := 17) rfl))) Via.refl e1 S_QUOTED (g := (mkF m 19 #[.val (.ref a1), .val (.int p1), .unset] [])) rfl (hb hby own_d1_19)
      refine own_st (fun t k => st3 t k) ?_
      show own_G _ _ _ _ _ _ _ (T3.setTop (mkF m 22 #[.val (.ref a1), .val (.int p1), .unset] [(.ref c_QUOTED)]))
      refine own_st (fun t k => XS.astoreN X3.here hx rfl (hb hby own_d1_22) rfl rfl (l' := #[.val (.ref a1), .val (.int p1), .val (.ref c_QUOTED)]) rfl k) ?_
      show own_G _ _ _ _ _ _ _ (T3.setTop (mkF m 23 #[.val (.ref a1), .val (.int p1), .val (.ref c_QUOTED)] []))
      refine own_st (fun t k => XS.goto X3.here hx rfl (pc0 := 23) (pc' := 63) rfl (hb hby own_d1_23) (by decide) (by decide) k) ?_
      show own_G _ _ _ _ _ _ _ (T3.setTop (mkF m 63 #[.val (.ref a1), .val (.int p1), .val (.ref c_QUOTED)] []))
      refine own_st (fun t k => XS.aloadN X3.here hx rfl (hb hby own_d1_63) rfl rfl k) ?_
      show own_G _ _ _ _ _ _ _ (T3.setTop (mkF m 64 #[.val (.ref a1), .val (.int p1), .val (.ref c_QUOTED)] [(.ref c_QUOTED)]))
      exact own_retA (ft := (.object "com/example/groveledger/groveledger/CsvPlace")) (w := (.ref c_QUOTED)) rfl rfl X3 hx Bd.returns (BodyLoose.notSynchronized Bd) (hb hby own_d1_64) (by decide) (by decide) ⟨congrArg (fun z => some (Value.ref z)) (show _ = own_after _ _ _ _ _ _ by simp only [own_after, if_pos hq, if_neg h34]), N0, e3⟩
  · refine own_st (fun t k => Jvm.RoadKit.acmp (g := (mkF m 4 #[.val (.ref a1), .val (.int p1), .unset] [(.ref c_QUOTED), (.ref a1)])) X1 hx rfl rfl rfl (pc0 := 4) (pc' := 26) (same := false) rfl (hb hby own_d1_4) rfl (decide_eq_false fun q => hq (Value.ref.inj q)) (by decide) (by decide) k) ?_
    show own_G _ _ _ _ _ _ _ (T1.setTop (mkF m 26 #[.val (.ref a1), .val (.int p1), .unset] []))
    refine own_st (fun t k => XS.iloadN X1.here hx rfl (hb hby own_d1_26) rfl k) ?_
    show own_G _ _ _ _ _ _ _ (T1.setTop (mkF m 27 #[.val (.ref a1), .val (.int p1), .unset] [(.int p1)]))
    refine own_st (fun t k => XS.bipush X1.here hx rfl (hb hby own_d1_27) k) ?_
    show own_G _ _ _ _ _ _ _ (T1.setTop (mkF m 29 #[.val (.ref a1), .val (.int p1), .unset] [(.int (44 : Int32)), (.int p1)]))
    by_cases h44 : p1 = (44 : Int32)
    · refine own_st (fun t k => XS.icmpNo X1.here hx rfl (hb hby own_d1_29) rfl (teq h44).2 k) ?_
      show own_G _ _ _ _ _ _ _ (T1.setTop (mkF m 32 #[.val (.ref a1), .val (.int p1), .unset] []))
      obtain ⟨T4, X4, e4, st4⟩ := getS2 X1 hx hZ hown (host := "") (Or.inl (hw _ (List.mem_of_getElem? (i := 19) rfl))) Via.refl e1 S_CELL_START (g := (mkF m 32 #[.val (.ref a1), .val (.int p1), .unset] [])) rfl (hb hby own_d1_32)
      refine own_st (fun t k => st4 t k) ?_
      show own_G _ _ _ _ _ _ _ (T4.setTop (mkF m 35 #[.val (.ref a1), .val (.int p1), .unset] [(.ref c_CELL_START)]))
      refine own_st (fun t k => XS.astoreN X4.here hx rfl (hb hby own_d1_35) rfl rfl (l' := #[.val (.ref a1), .val (.int p1), .val (.ref c_CELL_START)]) rfl k) ?_
      show own_G _ _ _ _ _ _ _ (T4.setTop (mkF m 36 #[.val (.ref a1), .val (.int p1), .val (.ref c_CELL_START)] []))
      refine own_st (fun t k => XS.goto X4.here hx rfl (pc0 := 36) (pc' := 63) rfl (hb hby own_d1_36) (by decide) (by decide) k) ?_
      show own_G _ _ _ _ _ _ _ (T4.setTop (mkF m 63 #[.val (.ref a1), .val (.int p1), .val (.ref c_CELL_START)] []))
      refine own_st (fun t k => XS.aloadN X4.here hx rfl (hb hby own_d1_63) rfl rfl k) ?_
      show own_G _ _ _ _ _ _ _ (T4.setTop (mkF m 64 #[.val (.ref a1), .val (.int p1), .val (.ref c_CELL_START)] [(.ref c_CELL_START)]))
      exact own_retA (ft := (.object "com/example/groveledger/groveledger/CsvPlace")) (w := (.ref c_CELL_START)) rfl rfl X4 hx Bd.returns (BodyLoose.notSynchronized Bd) (hb hby own_d1_64) (by decide) (by decide) ⟨congrArg (fun z => some (Value.ref z)) (show _ = own_after _ _ _ _ _ _ by simp only [own_after, if_neg hq, if_pos h44]), N0, e4⟩
    · refine own_st (fun t k => XS.icmpYes X1.here hx rfl (pc0 := 29) (pc' := 39) rfl (hb hby own_d1_29) rfl (feq h44).2 (by decide) (by decide) k) ?_
      show own_G _ _ _ _ _ _ _ (T1.setTop (mkF m 39 #[.val (.ref a1), .val (.int p1), .unset] []))
      refine own_st (fun t k => XS.iloadN X1.here hx rfl (hb hby own_d1_39) rfl k) ?_
      show own_G _ _ _ _ _ _ _ (T1.setTop (mkF m 40 #[.val (.ref a1), .val (.int p1), .unset] [(.int p1)]))
      refine own_st (fun t k => XS.bipush X1.here hx rfl (hb hby own_d1_40) k) ?_
      show own_G _ _ _ _ _ _ _ (T1.setTop (mkF m 42 #[.val (.ref a1), .val (.int p1), .unset] [(.int (34 : Int32)), (.int p1)]))
      by_cases h34 : p1 = (34 : Int32)
      · refine own_st (fun t k => XS.icmpNo X1.here hx rfl (hb hby own_d1_42) rfl (teq h34).2 k) ?_
        show own_G _ _ _ _ _ _ _ (T1.setTop (mkF m 45 #[.val (.ref a1), .val (.int p1), .unset] []))
        refine own_st (fun t k => XS.aloadN X1.here hx rfl (hb hby own_d1_45) rfl rfl k) ?_
        show own_G _ _ _ _ _ _ _ (T1.setTop (mkF m 46 #[.val (.ref a1), .val (.int p1), .unset] [(.ref a1)]))
        obtain ⟨T5, X5, e5, st5⟩ := getS2 X1 hx hZ hown (host := "") (Or.inl (hw _ (List.mem_of_getElem? (i := 18) rfl))) Via.refl e1 S_UNQUOTED (g := (mkF m 46 #[.val (.ref a1), .val (.int p1), .unset] [(.ref a1)])) rfl (hb hby own_d1_46)
        refine own_st (fun t k => st5 t k) ?_
        show own_G _ _ _ _ _ _ _ (T5.setTop (mkF m 49 #[.val (.ref a1), .val (.int p1), .unset] [(.ref c_UNQUOTED), (.ref a1)]))
        by_cases hu : a1 = c_UNQUOTED
        · refine own_st (fun t k => Jvm.RoadKit.acmp (g := (mkF m 49 #[.val (.ref a1), .val (.int p1), .unset] [(.ref c_UNQUOTED), (.ref a1)])) X5 hx rfl rfl rfl (pc0 := 49) (pc' := 59) (same := true) rfl (hb hby own_d1_49) rfl (decide_eq_true (congrArg Value.ref hu)) (by decide) (by decide) k) ?_
          show own_G _ _ _ _ _ _ _ (T5.setTop (mkF m 59 #[.val (.ref a1), .val (.int p1), .unset] []))
          obtain ⟨T6, X6, e6, st6⟩ := getS2 X5 hx hZ hown (host := "") (Or.inl (hw _ (List.mem_of_getElem? (i := 18) rfl))) Via.refl e5 S_UNQUOTED (g := (mkF m 59 #[.val (.ref a1), .val (.int p1), .unset] [])) rfl (hb hby own_d1_59)
          refine own_st (fun t k => st6 t k) ?_
          show own_G _ _ _ _ _ _ _ (T6.setTop (mkF m 62 #[.val (.ref a1), .val (.int p1), .unset] [(.ref c_UNQUOTED)]))
          refine own_st (fun t k => XS.astoreN X6.here hx rfl (hb hby own_d1_62) rfl rfl (l' := #[.val (.ref a1), .val (.int p1), .val (.ref c_UNQUOTED)]) rfl k) ?_
          show own_G _ _ _ _ _ _ _ (T6.setTop (mkF m 63 #[.val (.ref a1), .val (.int p1), .val (.ref c_UNQUOTED)] []))
          refine own_st (fun t k => XS.aloadN X6.here hx rfl (hb hby own_d1_63) rfl rfl k) ?_
          show own_G _ _ _ _ _ _ _ (T6.setTop (mkF m 64 #[.val (.ref a1), .val (.int p1), .val (.ref c_UNQUOTED)] [(.ref c_UNQUOTED)]))
          exact own_retA (ft := (.object "com/example/groveledger/groveledger/CsvPlace")) (w := (.ref c_UNQUOTED)) rfl rfl X6 hx Bd.returns (BodyLoose.notSynchronized Bd) (hb hby own_d1_64) (by decide) (by decide) ⟨congrArg (fun z => some (Value.ref z)) (show _ = own_after _ _ _ _ _ _ by simp only [own_after, if_neg hq, if_neg h44, if_pos h34, if_pos hu]), N0, e6⟩
        · refine own_st (fun t k => Jvm.RoadKit.acmp (g := (mkF m 49 #[.val (.ref a1), .val (.int p1), .unset] [(.ref c_UNQUOTED), (.ref a1)])) X5 hx rfl rfl rfl (pc0 := 49) (pc' := 52) (same := false) rfl (hb hby own_d1_49) rfl (decide_eq_false fun q => hu (Value.ref.inj q)) (by decide) (by decide) k) ?_
          show own_G _ _ _ _ _ _ _ (T5.setTop (mkF m 52 #[.val (.ref a1), .val (.int p1), .unset] []))
          obtain ⟨T7, X7, e7, st7⟩ := getS2 X5 hx hZ hown (host := "") (Or.inl (hw _ (List.mem_of_getElem? (i := 17) rfl))) Via.refl e5 S_QUOTED (g := (mkF m 52 #[.val (.ref a1), .val (.int p1), .unset] [])) rfl (hb hby own_d1_52)
          refine own_st (fun t k => st7 t k) ?_
          show own_G _ _ _ _ _ _ _ (T7.setTop (mkF m 55 #[.val (.ref a1), .val (.int p1), .unset] [(.ref c_QUOTED)]))
          refine own_st (fun t k => XS.astoreN X7.here hx rfl (hb hby own_d1_55) rfl rfl (l' := #[.val (.ref a1), .val (.int p1), .val (.ref c_QUOTED)]) rfl k) ?_
          show own_G _ _ _ _ _ _ _ (T7.setTop (mkF m 56 #[.val (.ref a1), .val (.int p1), .val (.ref c_QUOTED)] []))
          refine own_st (fun t k => XS.goto X7.here hx rfl (pc0 := 56) (pc' := 63) rfl (hb hby own_d1_56) (by decide) (by decide) k) ?_
          show own_G _ _ _ _ _ _ _ (T7.setTop (mkF m 63 #[.val (.ref a1), .val (.int p1), .val (.ref c_QUOTED)] []))
          refine own_st (fun t k => XS.aloadN X7.here hx rfl (hb hby own_d1_63) rfl rfl k) ?_
          show own_G _ _ _ _ _ _ _ (T7.setTop (mkF m 64 #[.val (.ref a1), .val (.int p1), .val (.ref c_QUOTED)] [(.ref c_QUOTED)]))
          exact own_retA (ft := (.object "com/example/groveledger/groveledger/CsvPlace")) (w := (.ref c_QUOTED)) rfl rfl X7 hx Bd.returns (BodyLoose.notSynchronized Bd) (hb hby own_d1_64) (by decide) (by decide) ⟨congrArg (fun z => some (Value.ref z)) (show _ = own_after _ _ _ _ _ _ by simp only [own_after, if_neg hq, if_neg h44, if_pos h34, if_neg hu]), N0, e7⟩
      · refine own_st (fun t k => XS.icmpYes X1.here hx rfl (pc0 := 42) (pc' := 59) rfl (hb hby own_d1_42) rfl (feq h34).2 (by decide) (by decide) k) ?_
        show own_G _ _ _ _ _ _ _ (T1.setTop (mkF m 59 #[.val (.ref a1), .val (.int p1), .unset] []))
        obtain ⟨T8, X8, e8, st8⟩ := getS2 X1 hx hZ hown (host := "") (Or.inl (hw _ (List.mem_of_getElem? (i := 18) rfl))) Via.refl e1 S_UNQUOTED (g := (mkF m 59 #[.val (.ref a1), .val (.int p1), .unset] [])) rfl (hb hby own_d1_59)
        refine own_st (fun t k => st8 t k) ?_
        show own_G _ _ _ _ _ _ _ (T8.setTop (mkF m 62 #[.val (.ref a1), .val (.int p1), .unset] [(.ref c_UNQUOTED)]))
        refine own_st (fun t k => XS.astoreN X8.here hx rfl (hb hby own_d1_62) rfl rfl (l' := #[.val (.ref a1), .val (.int p1), .val (.ref c_UNQUOTED)]) rfl k) ?_
        show own_G _ _ _ _ _ _ _ (T8.setTop (mkF m 63 #[.val (.ref a1), .val (.int p1), .val (.ref c_UNQUOTED)] []))
        refine own_st (fun t k => XS.aloadN X8.here hx rfl (hb hby own_d1_63) rfl rfl k) ?_
        show own_G _ _ _ _ _ _ _ (T8.setTop (mkF m 64 #[.val (.ref a1), .val (.int p1), .val (.ref c_UNQUOTED)] [(.ref c_UNQUOTED)]))
        exact own_retA (ft := (.object "com/example/groveledger/groveledger/CsvPlace")) (w := (.ref c_UNQUOTED)) rfl rfl X8 hx Bd.returns (BodyLoose.notSynchronized Bd) (hb hby own_d1_64) (by decide) (by decide) ⟨congrArg (fun z => some (Value.ref z)) (show _ = own_after _ _ _ _ _ _ by simp only [own_after, if_neg hq, if_neg h44, if_neg h34]), N0, e8⟩
theorem own_pd0 : parseMethodDescriptor "(I)Lcom/example/groveledger/groveledger/CsvPlace;" = some ⟨[.int], some (.object "com/example/groveledger/groveledger/CsvPlace")⟩ := by decide +kernel
theorem own_pn1 : plainName "com/example/groveledger/groveledger/CsvPlaceAfterPinLaw" = true := by first | (simp [plainName, overriddenIn]; done) | decide +kernel
theorem own_ef0 (m : MethodId) (p1 : Int32) (p2 : Int32) (p3 : Int32) : entryFrame m #[(.int p1), (.int p2), (.int p3)] maxLocals = mkF m 0 #[.val (.int p1), .val (.int p2), .val (.int p3), .unset, .unset, .unset, .unset, .unset] [] := by first | (simp [entryFrame, mkF, argsToLocals, Value.category, maxLocals]; done) | rfl
set_option maxRecDepth 65536 in
set_option maxHeartbeats 40000000 in
theorem own_rm0 (l : Launch) (Z : State) (a0 : Array Value) (hw : ∀ d ∈ tables_1, d.before a0 Z = true) (ws : List Jvm.Cond) (p1 p2 p3 : Int32) (c_CELL_START c_UNQUOTED c_QUOTED c_AFTER_QUOTE : Addr) (h0 : Heap) (n0 : Nat) (Z0 : n0 ≤ h0.size) (O0 : Old Z n0 h0) (S_CELL_START : Sta Z Z.heap "com/example/groveledger/groveledger/CsvPlace" "CELL_START" "Lcom/example/groveledger/groveledger/CsvPlace;" (.ref c_CELL_START)) (A_CELL_START : Exa Z Z.heap c_CELL_START "com/example/groveledger/groveledger/CsvPlace") (S_UNQUOTED : Sta Z Z.heap "com/example/groveledger/groveledger/CsvPlace" "UNQUOTED" "Lcom/example/groveledger/groveledger/CsvPlace;" (.ref c_UNQUOTED)) (A_UNQUOTED : Exa Z Z.heap c_UNQUOTED "com/example/groveledger/groveledger/CsvPlace") (S_QUOTED : Sta Z Z.heap "com/example/groveledger/groveledger/CsvPlace" "QUOTED" "Lcom/example/groveledger/groveledger/CsvPlace;" (.ref c_QUOTED)) (A_QUOTED : Exa Z Z.heap c_QUOTED "com/example/groveledger/groveledger/CsvPlace") (S_AFTER_QUOTE : Sta Z Z.heap "com/example/groveledger/groveledger/CsvPlace" "AFTER_QUOTE" "Lcom/example/groveledger/groveledger/CsvPlace;" (.ref c_AFTER_QUOTE)) (A_AFTER_QUOTE : Exa Z Z.heap c_AFTER_QUOTE "com/example/groveledger/groveledger/CsvPlace") (d_UNQUOTED_CELL_START : ¬ c_UNQUOTED = c_CELL_START) (d_QUOTED_CELL_START : ¬ c_QUOTED = c_CELL_START) (d_QUOTED_UNQUOTED : ¬ c_QUOTED = c_UNQUOTED) (d_AFTER_QUOTE_CELL_START : ¬ c_AFTER_QUOTE = c_CELL_START) (d_AFTER_QUOTE_UNQUOTED : ¬ c_AFTER_QUOTE = c_UNQUOTED) (d_AFTER_QUOTE_QUOTED : ¬ c_AFTER_QUOTE = c_QUOTED) :
    MetFree l x (head1 (Jvm.Cond.code x code maxLocals ret :: ws) room_1) (fun a U => a = #[(.int p1), (.int p2), (.int p3)] ∧ Z.Warmed39 U.vm ∧ U.heap = h0) (fun _ _ _ _ _ => True) (fun _ U o U' => ∃ v L, o = .returned v ∧ own_Q0 n0 v U'.heap L ∧ FrameEnd U o U' L room_1.cells room_1.slots) := by
  refine MetFree.of_bodySF (plainFor_of_name own_pn1) hisR ?_
  intro p e s m args below meth c s₁ Bd hml0 hP hK
  obtain ⟨rfl, hZ, hh⟩ := hP
  have hx := Bd.exec
  have hby := Bd.bytes
  have hml : c.maxLocals = 8 := hml0
  have hown : s.vm.findClass "com/example/groveledger/groveledger/CsvPlaceAfterPinLaw" = some m.cls := findClass_of_methodNamed Bd.named
  have hnm := (name_of_methodNamed Bd.named Bd.method).1
  have X0 : Stand p l e room_1 s m #[(.int p1), (.int p2), (.int p3)] below meth c s₁ [] 0 0 := Stand.of_body Bd
  have e0 : s₁.heap = h0 := by rw [← hh, Bd.state]; rfl
  have N0 := Fr.nil n0
  refine own_in (Q := own_Q0 n0) ?_
  rw [own_ef0]
  show own_G _ _ _ _ _ _ _ (s₁.setTop (mkF m 0 #[.val (.int p1), .val (.int p2), .val (.int p3), .unset, .unset, .unset, .unset, .unset] []))
  refine own_st (fun t k => XS.iconst X0.here hx rfl (hb hby at_0) k) ?_
  show own_G _ _ _ _ _ _ _ (s₁.setTop (mkF m 1 #[.val (.int p1), .val (.int p2), .val (.int p3), .unset, .unset, .unset, .unset, .unset] [(.int (4 : Int32))]))
  obtain ⟨T9, h9, k9, X9, e9, E9, A9, O9, st9⟩ := newR X0 hx hZ hown (hw _ (List.mem_of_getElem? (i := 0) rfl)) (hw _ (List.mem_of_getElem? (i := 1) rfl)) e0 (g := (mkF m 1 #[.val (.int p1), .val (.int p2), .val (.int p3), .unset, .unset, .unset, .unset, .unset] [(.int (4 : Int32))])) rfl (hb hby at_1) rfl (by decide) (cap := 4) (by decide) (by decide) (by decide) (by decide)
  obtain ⟨b1, g9⟩ : ∃ z, z = h0.size := ⟨_, rfl⟩
  rw [← g9] at A9 st9
  refine own_st (fun t k => st9 t k) ?_
  show own_G _ _ _ _ _ _ _ (T9.setTop (mkF m 4 #[.val (.int p1), .val (.int p2), .val (.int p3), .unset, .unset, .unset, .unset, .unset] [(.ref b1)]))
  have ge_b1 : n0 ≤ b1 := Nat.le_trans Z0 (Nat.le_of_eq g9.symm)
  have O_10 := O0.ext E9
  have Zz11 : n0 ≤ h9.size := Nat.le_trans Z0 E9.1
  have V_0 : Arv Z h9 b1 k9 (.object "com/example/groveledger/groveledger/CsvPlace") 4 [.null, .null, .null, .null] .null := (Arv.new A9 (by decide)).pad (pad_rep [] .null 4)
  refine own_st (fun t k => XS.dup X9.here hx rfl (hb hby at_4) rfl rfl k) ?_
  show own_G _ _ _ _ _ _ _ (T9.setTop (mkF m 5 #[.val (.int p1), .val (.int p2), .val (.int p3), .unset, .unset, .unset, .unset, .unset] [(.ref b1), (.ref b1)]))
  refine own_st (fun t k => XS.iconst X9.here hx rfl (hb hby at_5) k) ?_
  show own_G _ _ _ _ _ _ _ (T9.setTop (mkF m 6 #[.val (.int p1), .val (.int p2), .val (.int p3), .unset, .unset, .unset, .unset, .unset] [(.int (0 : Int32)), (.ref b1), (.ref b1)]))
  obtain ⟨T12, X12, e12, st12⟩ := getS2 X9 hx hZ hown (host := "") (Or.inl (hw _ (List.mem_of_getElem? (i := 2) rfl))) Via.refl e9 (S_CELL_START.ext O_10.2) (g := (mkF m 6 #[.val (.int p1), .val (.int p2), .val (.int p3), .unset, .unset, .unset, .unset, .unset] [(.int (0 : Int32)), (.ref b1), (.ref b1)])) rfl (hb hby at_6)
  refine own_st (fun t k => st12 t k) ?_
  show own_G _ _ _ _ _ _ _ (T12.setTop (mkF m 9 #[.val (.int p1), .val (.int p2), .val (.int p3), .unset, .unset, .unset, .unset, .unset] [(.ref c_CELL_START), (.int (0 : Int32)), (.ref b1), (.ref b1)]))
  obtain ⟨cl13, Ar13, q13, S13, M13, H13, G13⟩ := V_0
  have hin13 : ¬ ((0 : Int32) < 0 ∨ cl13.slots.size ≤ ((0 : Int32)).toNatClampNeg) := inb_of S13 ⟨by decide, by decide⟩
  obtain ⟨T14, h14, X14, e14, W14, st14⟩ := Jvm.RoadKit.stR X12 hx hZ e12 Ar13 (j := (0 : Int32)) hin13 rfl (Sto.ofV Ar13 q13 O9 (Ins.self (A_CELL_START.ext O_10.2))) (g := (mkF m 9 #[.val (.int p1), .val (.int p2), .val (.int p3), .unset, .unset, .unset, .unset, .unset] [(.ref c_CELL_START), (.int (0 : Int32)), (.ref b1), (.ref b1)])) rfl rfl (hb hby at_9)
  have N14 := Fr.snoc X14 N0 ge_b1
  refine own_st (fun t k => st14 t k) ?_
  show own_G _ _ _ _ _ _ _ (T14.setTop (mkF m 10 #[.val (.int p1), .val (.int p2), .val (.int p3), .unset, .unset, .unset, .unset, .unset] [(.ref b1)]))
  have V_14 : Arv Z h14 b1 k9 (.object "com/example/groveledger/groveledger/CsvPlace") 4 [.ref c_CELL_START, .null, .null, .null] .null := Arv.set Ar13 q13 S13 M13 H13 G13 rfl W14 0 rfl (Nat.le_of_ble_eq_true rfl)
  have O_15 := O_10.wr W14 ge_b1
  have Zz16 : n0 ≤ h14.size := Nat.le_trans Zz11 (Keep.of_wr W14).1
  refine own_st (fun t k => XS.dup X14.here hx rfl (hb hby at_10) rfl rfl k) ?_
  show own_G _ _ _ _ _ _ _ (T14.setTop (mkF m 11 #[.val (.int p1), .val (.int p2), .val (.int p3), .unset, .unset, .unset, .unset, .unset] [(.ref b1), (.ref b1)]))
  refine own_st (fun t k => XS.iconst X14.here hx rfl (hb hby at_11) k) ?_
  show own_G _ _ _ _ _ _ _ (T14.setTop (mkF m 12 #[.val (.int p1), .val (.int p2), .val (.int p3), .unset, .unset, .unset, .unset, .unset] [(.int (1 : Int32)), (.ref b1), (.ref b1)]))
  obtain ⟨T17, X17, e17, st17⟩ := getS2 X14 hx hZ hown (host := "") (Or.inl (hw _ (List.mem_of_getElem? (i := 6) rfl))) Via.refl e14 (S_UNQUOTED.ext O_15.2) (g := (mkF m 12 #[.val (.int p1), .val (.int p2), .val (.int p3), .unset, .unset, .unset, .unset, .unset] [(.int (1 : Int32)), (.ref b1), (.ref b1)])) rfl (hb hby at_12)
  refine own_st (fun t k => st17 t k) ?_
  show own_G _ _ _ _ _ _ _ (T17.setTop (mkF m 15 #[.val (.int p1), .val (.int p2), .val (.int p3), .unset, .unset, .unset, .unset, .unset] [(.ref c_UNQUOTED), (.int (1 : Int32)), (.ref b1), (.ref b1)]))
  obtain ⟨cl18, Ar18, q18, S18, M18, H18, G18⟩ := V_14
  have hin18 : ¬ ((1 : Int32) < 0 ∨ cl18.slots.size ≤ ((1 : Int32)).toNatClampNeg) := inb_of S18 ⟨by decide, by decide⟩
  obtain ⟨T19, h19, X19, e19, W19, st19⟩ := Jvm.RoadKit.stR X17 hx hZ e17 Ar18 (j := (1 : Int32)) hin18 rfl (Sto.ofV Ar18 q18 O9 (Ins.self (A_UNQUOTED.ext O_15.2))) (g := (mkF m 15 #[.val (.int p1), .val (.int p2), .val (.int p3), .unset, .unset, .unset, .unset, .unset] [(.ref c_UNQUOTED), (.int (1 : Int32)), (.ref b1), (.ref b1)])) rfl rfl (hb hby at_15)
  have N19 := Fr.snoc X19 N14 ge_b1
  refine own_st (fun t k => st19 t k) ?_
  show own_G _ _ _ _ _ _ _ (T19.setTop (mkF m 16 #[.val (.int p1), .val (.int p2), .val (.int p3), .unset, .unset, .unset, .unset, .unset] [(.ref b1)]))
  have V_19 : Arv Z h19 b1 k9 (.object "com/example/groveledger/groveledger/CsvPlace") 4 [.ref c_CELL_START, .ref c_UNQUOTED, .null, .null] .null := Arv.set Ar18 q18 S18 M18 H18 G18 rfl W19 1 rfl (Nat.le_of_ble_eq_true rfl)
  have O_20 := O_15.wr W19 ge_b1
  have Zz21 : n0 ≤ h19.size := Nat.le_trans Zz16 (Keep.of_wr W19).1
  refine own_st (fun t k => XS.dup X19.here hx rfl (hb hby at_16) rfl rfl k) ?_
  show own_G _ _ _ _ _ _ _ (T19.setTop (mkF m 17 #[.val (.int p1), .val (.int p2), .val (.int p3), .unset, .unset, .unset, .unset, .unset] [(.ref b1), (.ref b1)]))
  refine own_st (fun t k => XS.iconst X19.here hx rfl (hb hby at_17) k) ?_
  show own_G _ _ _ _ _ _ _ (T19.setTop (mkF m 18 #[.val (.int p1), .val (.int p2), .val (.int p3), .unset, .unset, .unset, .unset, .unset] [(.int (2 : Int32)), (.ref b1), (.ref b1)]))
  obtain ⟨T22, X22, e22, st22⟩ := getS2 X19 hx hZ hown (host := "") (Or.inl (hw _ (List.mem_of_getElem? (i := 8) rfl))) Via.refl e19 (S_QUOTED.ext O_20.2) (g := (mkF m 18 #[.val (.int p1), .val (.int p2), .val (.int p3), .unset, .unset, .unset, .unset, .unset] [(.int (2 : Int32)), (.ref b1), (.ref b1)])) rfl (hb hby at_18)
  refine own_st (fun t k => st22 t k) ?_
  show own_G _ _ _ _ _ _ _ (T22.setTop (mkF m 21 #[.val (.int p1), .val (.int p2), .val (.int p3), .unset, .unset, .unset, .unset, .unset] [(.ref c_QUOTED), (.int (2 : Int32)), (.ref b1), (.ref b1)]))
  obtain ⟨cl23, Ar23, q23, S23, M23, H23, G23⟩ := V_19
  have hin23 : ¬ ((2 : Int32) < 0 ∨ cl23.slots.size ≤ ((2 : Int32)).toNatClampNeg) := inb_of S23 ⟨by decide, by decide⟩
  obtain ⟨T24, h24, X24, e24, W24, st24⟩ := Jvm.RoadKit.stR X22 hx hZ e22 Ar23 (j := (2 : Int32)) hin23 rfl (Sto.ofV Ar23 q23 O9 (Ins.self (A_QUOTED.ext O_20.2))) (g := (mkF m 21 #[.val (.int p1), .val (.int p2), .val (.int p3), .unset, .unset, .unset, .unset, .unset] [(.ref c_QUOTED), (.int (2 : Int32)), (.ref b1), (.ref b1)])) rfl rfl (hb hby at_21)
  have N24 := Fr.snoc X24 N19 ge_b1
  refine own_st (fun t k => st24 t k) ?_
  show own_G _ _ _ _ _ _ _ (T24.setTop (mkF m 22 #[.val (.int p1), .val (.int p2), .val (.int p3), .unset, .unset, .unset, .unset, .unset] [(.ref b1)]))
  have V_24 : Arv Z h24 b1 k9 (.object "com/example/groveledger/groveledger/CsvPlace") 4 [.ref c_CELL_START, .ref c_UNQUOTED, .ref c_QUOTED, .null] .null := Arv.set Ar23 q23 S23 M23 H23 G23 rfl W24 2 rfl (Nat.le_of_ble_eq_true rfl)
  have O_25 := O_20.wr W24 ge_b1
  have Zz26 : n0 ≤ h24.size := Nat.le_trans Zz21 (Keep.of_wr W24).1
  refine own_st (fun t k => XS.dup X24.here hx rfl (hb hby at_22) rfl rfl k) ?_
  show own_G _ _ _ _ _ _ _ (T24.setTop (mkF m 23 #[.val (.int p1), .val (.int p2), .val (.int p3), .unset, .unset, .unset, .unset, .unset] [(.ref b1), (.ref b1)]))
  refine own_st (fun t k => XS.iconst X24.here hx rfl (hb hby at_23) k) ?_
  show own_G _ _ _ _ _ _ _ (T24.setTop (mkF m 24 #[.val (.int p1), .val (.int p2), .val (.int p3), .unset, .unset, .unset, .unset, .unset] [(.int (3 : Int32)), (.ref b1), (.ref b1)]))
  obtain ⟨T27, X27, e27, st27⟩ := getS2 X24 hx hZ hown (host := "") (Or.inl (hw _ (List.mem_of_getElem? (i := 10) rfl))) Via.refl e24 (S_AFTER_QUOTE.ext O_25.2) (g := (mkF m 24 #[.val (.int p1), .val (.int p2), .val (.int p3), .unset, .unset, .unset, .unset, .unset] [(.int (3 : Int32)), (.ref b1), (.ref b1)])) rfl (hb hby at_24)
  refine own_st (fun t k => st27 t k) ?_
  show own_G _ _ _ _ _ _ _ (T27.setTop (mkF m 27 #[.val (.int p1), .val (.int p2), .val (.int p3), .unset, .unset, .unset, .unset, .unset] [(.ref c_AFTER_QUOTE), (.int (3 : Int32)), (.ref b1), (.ref b1)]))
  obtain ⟨cl28, Ar28, q28, S28, M28, H28, G28⟩ := V_24
  have hin28 : ¬ ((3 : Int32) < 0 ∨ cl28.slots.size ≤ ((3 : Int32)).toNatClampNeg) := inb_of S28 ⟨by decide, by decide⟩
  obtain ⟨T29, h29, X29, e29, W29, st29⟩ := Jvm.RoadKit.stR X27 hx hZ e27 Ar28 (j := (3 : Int32)) hin28 rfl (Sto.ofV Ar28 q28 O9 (Ins.self (A_AFTER_QUOTE.ext O_25.2))) (g := (mkF m 27 #[.val (.int p1), .val (.int p2), .val (.int p3), .unset, .unset, .unset, .unset, .unset] [(.ref c_AFTER_QUOTE), (.int (3 : Int32)), (.ref b1), (.ref b1)])) rfl rfl (hb hby at_27)
  have N29 := Fr.snoc X29 N24 ge_b1
  refine own_st (fun t k => st29 t k) ?_
  show own_G _ _ _ _ _ _ _ (T29.setTop (mkF m 28 #[.val (.int p1), .val (.int p2), .val (.int p3), .unset, .unset, .unset, .unset, .unset] [(.ref b1)]))
  have V_29 : Arv Z h29 b1 k9 (.object "com/example/groveledger/groveledger/CsvPlace") 4 [.ref c_CELL_START, .ref c_UNQUOTED, .ref c_QUOTED, .ref c_AFTER_QUOTE] .null := Arv.set Ar28 q28 S28 M28 H28 G28 rfl W29 3 rfl (Nat.le_of_ble_eq_true rfl)
  have O_30 := O_25.wr W29 ge_b1
  have Zz31 : n0 ≤ h29.size := Nat.le_trans Zz26 (Keep.of_wr W29).1
  refine own_st (fun t k => XS.astoreN X29.here hx rfl (hb hby at_28) rfl rfl (l' := #[.val (.int p1), .val (.int p2), .val (.int p3), .val (.ref b1), .unset, .unset, .unset, .unset]) rfl k) ?_
  show own_G _ _ _ _ _ _ _ (T29.setTop (mkF m 29 #[.val (.int p1), .val (.int p2), .val (.int p3), .val (.ref b1), .unset, .unset, .unset, .unset] []))
  refine own_st (fun t k => XS.iloadN X29.here hx rfl (hb hby at_29) rfl k) ?_
  show own_G _ _ _ _ _ _ _ (T29.setTop (mkF m 30 #[.val (.int p1), .val (.int p2), .val (.int p3), .val (.ref b1), .unset, .unset, .unset, .unset] [(.int p1)]))
  refine own_st (fun t k => XS.iconst X29.here hx rfl (hb hby at_30) k) ?_
  show own_G _ _ _ _ _ _ _ (T29.setTop (mkF m 31 #[.val (.int p1), .val (.int p2), .val (.int p3), .val (.ref b1), .unset, .unset, .unset, .unset] [(.int (3 : Int32)), (.int p1)]))
  refine own_st (fun t k => XS.iand X29.here hx rfl (hb hby at_31) rfl k) ?_
  show own_G _ _ _ _ _ _ _ (T29.setTop (mkF m 32 #[.val (.int p1), .val (.int p2), .val (.int p3), .val (.ref b1), .unset, .unset, .unset, .unset] [(.int (p1 &&& (3 : Int32)))]))
  refine own_st (fun t k => XS.istore X29.here hx rfl (hb hby at_32) rfl (l' := #[.val (.int p1), .val (.int p2), .val (.int p3), .val (.ref b1), .val (.int (p1 &&& (3 : Int32))), .unset, .unset, .unset]) rfl k) ?_
  show own_G _ _ _ _ _ _ _ (T29.setTop (mkF m 34 #[.val (.int p1), .val (.int p2), .val (.int p3), .val (.ref b1), .val (.int (p1 &&& (3 : Int32))), .unset, .unset, .unset] []))
  refine own_st (fun t k => XS.iloadN X29.here hx rfl (hb hby at_34) rfl k) ?_
  show own_G _ _ _ _ _ _ _ (T29.setTop (mkF m 35 #[.val (.int p1), .val (.int p2), .val (.int p3), .val (.ref b1), .val (.int (p1 &&& (3 : Int32))), .unset, .unset, .unset] [(.int p2)]))
  refine own_st (fun t k => XS.iconst X29.here hx rfl (hb hby at_35) k) ?_
  show own_G _ _ _ _ _ _ _ (T29.setTop (mkF m 36 #[.val (.int p1), .val (.int p2), .val (.int p3), .val (.ref b1), .val (.int (p1 &&& (3 : Int32))), .unset, .unset, .unset] [(.int (3 : Int32)), (.int p2)]))
  refine own_st (fun t k => XS.iand X29.here hx rfl (hb hby at_36) rfl k) ?_
  show own_G _ _ _ _ _ _ _ (T29.setTop (mkF m 37 #[.val (.int p1), .val (.int p2), .val (.int p3), .val (.ref b1), .val (.int (p1 &&& (3 : Int32))), .unset, .unset, .unset] [(.int (p2 &&& (3 : Int32)))]))
  refine own_st (fun t k => XS.istore X29.here hx rfl (hb hby at_37) rfl (l' := #[.val (.int p1), .val (.int p2), .val (.int p3), .val (.ref b1), .val (.int (p1 &&& (3 : Int32))), .val (.int (p2 &&& (3 : Int32))), .unset, .unset]) rfl k) ?_
  show own_G _ _ _ _ _ _ _ (T29.setTop (mkF m 39 #[.val (.int p1), .val (.int p2), .val (.int p3), .val (.ref b1), .val (.int (p1 &&& (3 : Int32))), .val (.int (p2 &&& (3 : Int32))), .unset, .unset] []))
  have hi := own_i p1
  generalize (p1 &&& (3 : Int32)) = i at hi ⊢
  generalize (p2 &&& (3 : Int32)) = se
  show own_G _ _ _ _ _ _ _ (T29.setTop (mkF m 39 #[.val (.int p1), .val (.int p2), .val (.int p3), .val (.ref b1), .val (.int i), .val (.int se), .unset, .unset] []))
  have J : ∀ (c6 : Int32), own_G p.tables e below s (own_Q0 n0) room_1.cells room_1.slots (T29.setTop (mkF m 63 #[.val (.int p1), .val (.int p2), .val (.int p3), .val (.ref b1), .val (.int i), .val (.int se), .val (.int c6), .unset] [])) := by
    intro c6
    have Kt : ∀ (wa : Int32), (wa = 0 ∨ wa = 1 ∨ wa = 2 ∨ wa = 3) → own_after c_CELL_START c_UNQUOTED c_QUOTED c_AFTER_QUOTE (own_at c_CELL_START c_UNQUOTED c_QUOTED c_AFTER_QUOTE i) c6 = own_at c_CELL_START c_UNQUOTED c_QUOTED c_AFTER_QUOTE wa → own_G p.tables e below s (own_Q0 n0) room_1.cells room_1.slots (T29.setTop (mkF m 147 #[.val (.int p1), .val (.int p2), .val (.int p3), .val (.ref b1), .val (.int i), .val (.int se), .val (.int c6), .val (.int wa)] [])) := by
      intro wa hwa hv
      refine own_st (fun t k => XS.aloadN X29.here hx rfl (hb hby at_147) rfl rfl k) ?_
      show own_G _ _ _ _ _ _ _ (T29.setTop (mkF m 148 #[.val (.int p1), .val (.int p2), .val (.int p3), .val (.ref b1), .val (.int i), .val (.int se), .val (.int c6), .val (.int wa)] [(.ref b1)]))
      refine own_st (fun t k => XS.iload X29.here hx rfl (hb hby at_148) rfl k) ?_
      show own_G _ _ _ _ _ _ _ (T29.setTop (mkF m 150 #[.val (.int p1), .val (.int p2), .val (.int p3), .val (.ref b1), .val (.int i), .val (.int se), .val (.int c6), .val (.int wa)] [(.int i), (.ref b1)]))
      obtain ⟨cl32, Ar32, q32, S32, M32, H32, G32⟩ := V_29
      have hin : ¬ (i < 0 ∨ cl32.slots.size ≤ i.toNatClampNeg) := inb_of S32 (own_rng hi)
      have hat := Has.at H32 hin (own_getd c_CELL_START c_UNQUOTED c_QUOTED c_AFTER_QUOTE hi)
      refine own_st (fun t k => X29.aaload hx (j := i) (v := (.ref (own_at c_CELL_START c_UNQUOTED c_QUOTED c_AFTER_QUOTE i))) (by rw [e29]; exact Ar32.1) (State.isArrayOf_alike hZ.alike Ar32.2.1) rfl Ar32.2.2 hin hat (g := (mkF m 150 #[.val (.int p1), .val (.int p2), .val (.int p3), .val (.ref b1), .val (.int i), .val (.int se), .val (.int c6), .val (.int wa)] [(.int i), (.ref b1)])) rfl rfl (hb hby at_150) t k) ?_
      show own_G _ _ _ _ _ _ _ (T29.setTop (mkF m 151 #[.val (.int p1), .val (.int p2), .val (.int p3), .val (.ref b1), .val (.int i), .val (.int se), .val (.int c6), .val (.int wa)] [(.ref (own_at c_CELL_START c_UNQUOTED c_QUOTED c_AFTER_QUOTE i))]))
      refine own_st (fun t k => XS.iload X29.here hx rfl (hb hby at_151) rfl k) ?_
      show own_G _ _ _ _ _ _ _ (T29.setTop (mkF m 153 #[.val (.int p1), .val (.int p2), .val (.int p3), .val (.ref b1), .val (.int i), .val (.int se), .val (.int c6), .val (.int wa)] [(.int c6), (.ref (own_at c_CELL_START c_UNQUOTED c_QUOTED c_AFTER_QUOTE i))]))
      obtain ⟨cq33, kq33, q33a, q33b, q33c⟩ := isOf hZ e29 (own_exa (A_CELL_START.ext O_30.2) (A_UNQUOTED.ext O_30.2) (A_QUOTED.ext O_30.2) (A_AFTER_QUOTE.ext O_30.2) i)
      obtain ⟨_, _, ⟨T33, L33, k33, n33⟩, -, X33, ⟨Lc33, hQ33, l33, y33, z33⟩, st33⟩ := X29.virtualBack hx (y := (⟨"com/example/groveledger/groveledger/CsvPlace", "after", "(I)Lcom/example/groveledger/groveledger/CsvPlace;"⟩ : MethodName)) (z := (⟨"com/example/groveledger/groveledger/CsvPlace", "after", "(I)Lcom/example/groveledger/groveledger/CsvPlace;"⟩ : MethodName)) hown (mvT hZ (hw _ (List.mem_of_getElem? (i := 12) rfl))) (mvT hZ (hw _ (List.mem_of_getElem? (i := 13) rfl))) (notFace_of_selects (args := #[]) (mvT hZ (hw _ (List.mem_of_getElem? (i := 15) rfl)))) (mvT hZ (hw _ (List.mem_of_getElem? (i := 15) rfl))) (mvT hZ (hw _ (List.mem_of_getElem? (i := 14) rfl))) (by decide) (backOf (W := 0) (own_rm1 l Z a0 hw [] (own_at c_CELL_START c_UNQUOTED c_QUOTED c_AFTER_QUOTE i) c6 c_CELL_START c_UNQUOTED c_QUOTED c_AFTER_QUOTE h29 n0 Zz31 (S_CELL_START.ext O_30.2) (S_UNQUOTED.ext O_30.2) (S_QUOTED.ext O_30.2) (S_AFTER_QUOTE.ext O_30.2)) hZ (hw _ (List.mem_of_getElem? (i := 16) rfl)) (hw _ (List.mem_of_getElem? (i := 3) rfl)) (by decide) (by decide)) q33a q33c (g := (mkF m 153 #[.val (.int p1), .val (.int p2), .val (.int p3), .val (.ref b1), .val (.int i), .val (.int se), .val (.int c6), .val (.int wa)] [(.int c6), (.ref (own_at c_CELL_START c_UNQUOTED c_QUOTED c_AFTER_QUOTE i))])) rfl (by rw [hml]; rfl) (Steps.refl _) (argsL := [(.int c6)]) (rest := []) (lenOf own_pd0 rfl) rfl (by show 2 * 0 + _ ≤ _; exact Nat.le_of_eq rfl) (hb hby at_153) (fun _ _ => ⟨rfl, e29, (by decide : 1 + 0 ≤ _), (by decide : 4 + 0 ≤ _)⟩)
      dsimp only [Pt.U, Pt.locs, Pt.cells, Pt.slots] at X33 l33 y33 z33 st33 hQ33
      subst l33 y33 z33
      obtain ⟨rfl, N33q, e33⟩ := hQ33
      have N33 := Fr.app N29 N33q
      refine own_st (fun t k => st33.trans k) ?_
      show own_G _ _ _ _ _ _ _ (T33.setTop (mkF m 156 #[.val (.int p1), .val (.int p2), .val (.int p3), .val (.ref b1), .val (.int i), .val (.int se), .val (.int c6), .val (.int wa)] [(.ref (own_after c_CELL_START c_UNQUOTED c_QUOTED c_AFTER_QUOTE (own_at c_CELL_START c_UNQUOTED c_QUOTED c_AFTER_QUOTE i) c6))]))
      refine own_st (fun t k => XS.aloadN X33.here hx rfl (hb hby at_156) rfl rfl k) ?_
      show own_G _ _ _ _ _ _ _ (T33.setTop (mkF m 157 #[.val (.int p1), .val (.int p2), .val (.int p3), .val (.ref b1), .val (.int i), .val (.int se), .val (.int c6), .val (.int wa)] [(.ref b1), (.ref (own_after c_CELL_START c_UNQUOTED c_QUOTED c_AFTER_QUOTE (own_at c_CELL_START c_UNQUOTED c_QUOTED c_AFTER_QUOTE i) c6))]))
      refine own_st (fun t k => XS.iload X33.here hx rfl (hb hby at_157) rfl k) ?_
      show own_G _ _ _ _ _ _ _ (T33.setTop (mkF m 159 #[.val (.int p1), .val (.int p2), .val (.int p3), .val (.ref b1), .val (.int i), .val (.int se), .val (.int c6), .val (.int wa)] [(.int wa), (.ref b1), (.ref (own_after c_CELL_START c_UNQUOTED c_QUOTED c_AFTER_QUOTE (own_at c_CELL_START c_UNQUOTED c_QUOTED c_AFTER_QUOTE i) c6))]))
      have hin2 : ¬ (wa < 0 ∨ cl32.slots.size ≤ wa.toNatClampNeg) := inb_of S32 (own_rng hwa)
      have hat2 := Has.at H32 hin2 (own_getd c_CELL_START c_UNQUOTED c_QUOTED c_AFTER_QUOTE hwa)
      refine own_st (fun t k => X33.aaload hx (j := wa) (v := (.ref (own_at c_CELL_START c_UNQUOTED c_QUOTED c_AFTER_QUOTE wa))) (by rw [e33]; exact Ar32.1) (State.isArrayOf_alike hZ.alike Ar32.2.1) rfl Ar32.2.2 hin2 hat2 (g := (mkF m 159 #[.val (.int p1), .val (.int p2), .val (.int p3), .val (.ref b1), .val (.int i), .val (.int se), .val (.int c6), .val (.int wa)] [(.int wa), (.ref b1), (.ref (own_after c_CELL_START c_UNQUOTED c_QUOTED c_AFTER_QUOTE (own_at c_CELL_START c_UNQUOTED c_QUOTED c_AFTER_QUOTE i) c6))])) rfl rfl (hb hby at_159) t k) ?_
      show own_G _ _ _ _ _ _ _ (T33.setTop (mkF m 160 #[.val (.int p1), .val (.int p2), .val (.int p3), .val (.ref b1), .val (.int i), .val (.int se), .val (.int c6), .val (.int wa)] [(.ref (own_at c_CELL_START c_UNQUOTED c_QUOTED c_AFTER_QUOTE wa)), (.ref (own_after c_CELL_START c_UNQUOTED c_QUOTED c_AFTER_QUOTE (own_at c_CELL_START c_UNQUOTED c_QUOTED c_AFTER_QUOTE i) c6))]))
      refine own_st (fun t k => Jvm.RoadKit.acmp (g := (mkF m 160 #[.val (.int p1), .val (.int p2), .val (.int p3), .val (.ref b1), .val (.int i), .val (.int se), .val (.int c6), .val (.int wa)] [(.ref (own_at c_CELL_START c_UNQUOTED c_QUOTED c_AFTER_QUOTE wa)), (.ref (own_after c_CELL_START c_UNQUOTED c_QUOTED c_AFTER_QUOTE (own_at c_CELL_START c_UNQUOTED c_QUOTED c_AFTER_QUOTE i) c6))])) X33 hx rfl rfl rfl (pc0 := 160) (pc' := 163) (same := true) rfl (hb hby at_160) rfl (decide_eq_true (congrArg Value.ref hv)) (by decide) (by decide) k) ?_
      show own_G _ _ _ _ _ _ _ (T33.setTop (mkF m 163 #[.val (.int p1), .val (.int p2), .val (.int p3), .val (.ref b1), .val (.int i), .val (.int se), .val (.int c6), .val (.int wa)] []))
      refine own_st (fun t k => XS.iconst X33.here hx rfl (hb hby at_163) k) ?_
      show own_G _ _ _ _ _ _ _ (T33.setTop (mkF m 164 #[.val (.int p1), .val (.int p2), .val (.int p3), .val (.ref b1), .val (.int i), .val (.int se), .val (.int c6), .val (.int wa)] [(.int (1 : Int32))]))
      refine own_st (fun t k => XS.goto X33.here hx rfl (pc0 := 164) (pc' := 168) rfl (hb hby at_164) (by decide) (by decide) k) ?_
      show own_G _ _ _ _ _ _ _ (T33.setTop (mkF m 168 #[.val (.int p1), .val (.int p2), .val (.int p3), .val (.ref b1), .val (.int i), .val (.int se), .val (.int c6), .val (.int wa)] [(.int (1 : Int32))]))
      exact own_retN (t := .boolean) (by simp) X33 hx Bd.returns (BodyLoose.notSynchronized Bd) (hb hby at_168) (by decide) (by decide) ⟨rfl, N33⟩
    refine own_st (fun t k => XS.iload X29.here hx rfl (hb hby at_63) rfl k) ?_
    show own_G _ _ _ _ _ _ _ (T29.setTop (mkF m 65 #[.val (.int p1), .val (.int p2), .val (.int p3), .val (.ref b1), .val (.int i), .val (.int se), .val (.int c6), .unset] [(.int c6)]))
    refine own_st (fun t k => XS.bipush X29.here hx rfl (hb hby at_65) k) ?_
    show own_G _ _ _ _ _ _ _ (T29.setTop (mkF m 67 #[.val (.int p1), .val (.int p2), .val (.int p3), .val (.ref b1), .val (.int i), .val (.int se), .val (.int c6), .unset] [(.int (34 : Int32)), (.int c6)]))
    by_cases k34 : c6 = (34 : Int32)
    · refine own_st (fun t k => XS.icmpNo X29.here hx rfl (hb hby at_67) rfl (teq k34).2 k) ?_
      show own_G _ _ _ _ _ _ _ (T29.setTop (mkF m 70 #[.val (.int p1), .val (.int p2), .val (.int p3), .val (.ref b1), .val (.int i), .val (.int se), .val (.int c6), .unset] []))
      refine own_st (fun t k => XS.iload X29.here hx rfl (hb hby at_70) rfl k) ?_
      show own_G _ _ _ _ _ _ _ (T29.setTop (mkF m 72 #[.val (.int p1), .val (.int p2), .val (.int p3), .val (.ref b1), .val (.int i), .val (.int se), .val (.int c6), .unset] [(.int i)]))
      by_cases k0 : i = (0 : Int32)
      · refine own_st (fun t k => XS.ifNo X29.here hx rfl (hb hby at_72) rfl ((if0 _ _).trans (teq k0).2) k) ?_
        show own_G _ _ _ _ _ _ _ (T29.setTop (mkF m 75 #[.val (.int p1), .val (.int p2), .val (.int p3), .val (.ref b1), .val (.int i), .val (.int se), .val (.int c6), .unset] []))
        refine own_st (fun t k => XS.iconst X29.here hx rfl (hb hby at_75) k) ?_
        show own_G _ _ _ _ _ _ _ (T29.setTop (mkF m 76 #[.val (.int p1), .val (.int p2), .val (.int p3), .val (.ref b1), .val (.int i), .val (.int se), .val (.int c6), .unset] [(.int (2 : Int32))]))
        refine own_st (fun t k => XS.istore X29.here hx rfl (hb hby at_76) rfl (l' := #[.val (.int p1), .val (.int p2), .val (.int p3), .val (.ref b1), .val (.int i), .val (.int se), .val (.int c6), .val (.int (2 : Int32))]) rfl k) ?_
        show own_G _ _ _ _ _ _ _ (T29.setTop (mkF m 78 #[.val (.int p1), .val (.int p2), .val (.int p3), .val (.ref b1), .val (.int i), .val (.int se), .val (.int c6), .val (.int (2 : Int32))] []))
        refine own_st (fun t k => XS.goto X29.here hx rfl (pc0 := 78) (pc' := 147) rfl (hb hby at_78) (by decide) (by decide) k) ?_
        show own_G _ _ _ _ _ _ _ (T29.setTop (mkF m 147 #[.val (.int p1), .val (.int p2), .val (.int p3), .val (.ref b1), .val (.int i), .val (.int se), .val (.int c6), .val (.int (2 : Int32))] []))
        exact Kt _ (by decide) (by rcases hi with rfl | rfl | rfl | rfl <;> simp_all [own_after, own_at, d_UNQUOTED_CELL_START, Ne.symm d_UNQUOTED_CELL_START, d_QUOTED_CELL_START, Ne.symm d_QUOTED_CELL_START, d_QUOTED_UNQUOTED, Ne.symm d_QUOTED_UNQUOTED, d_AFTER_QUOTE_CELL_START, Ne.symm d_AFTER_QUOTE_CELL_START, d_AFTER_QUOTE_UNQUOTED, Ne.symm d_AFTER_QUOTE_UNQUOTED, d_AFTER_QUOTE_QUOTED, Ne.symm d_AFTER_QUOTE_QUOTED])
      · refine own_st (fun t k => XS.ifYes X29.here hx rfl (pc0 := 72) (pc' := 81) rfl (hb hby at_72) rfl ((if0 _ _).trans (feq k0).2) (by decide) (by decide) k) ?_
        show own_G _ _ _ _ _ _ _ (T29.setTop (mkF m 81 #[.val (.int p1), .val (.int p2), .val (.int p3), .val (.ref b1), .val (.int i), .val (.int se), .val (.int c6), .unset] []))
        refine own_st (fun t k => XS.iload X29.here hx rfl (hb hby at_81) rfl k) ?_
        show own_G _ _ _ _ _ _ _ (T29.setTop (mkF m 83 #[.val (.int p1), .val (.int p2), .val (.int p3), .val (.ref b1), .val (.int i), .val (.int se), .val (.int c6), .unset] [(.int i)]))
        refine own_st (fun t k => XS.iconst X29.here hx rfl (hb hby at_83) k) ?_
        show own_G _ _ _ _ _ _ _ (T29.setTop (mkF m 84 #[.val (.int p1), .val (.int p2), .val (.int p3), .val (.ref b1), .val (.int i), .val (.int se), .val (.int c6), .unset] [(.int (1 : Int32)), (.int i)]))
        by_cases k1 : i = (1 : Int32)
        · refine own_st (fun t k => XS.icmpNo X29.here hx rfl (hb hby at_84) rfl (teq k1).2 k) ?_
          show own_G _ _ _ _ _ _ _ (T29.setTop (mkF m 87 #[.val (.int p1), .val (.int p2), .val (.int p3), .val (.ref b1), .val (.int i), .val (.int se), .val (.int c6), .unset] []))
          refine own_st (fun t k => XS.iconst X29.here hx rfl (hb hby at_87) k) ?_
          show own_G _ _ _ _ _ _ _ (T29.setTop (mkF m 88 #[.val (.int p1), .val (.int p2), .val (.int p3), .val (.ref b1), .val (.int i), .val (.int se), .val (.int c6), .unset] [(.int (1 : Int32))]))
          refine own_st (fun t k => XS.istore X29.here hx rfl (hb hby at_88) rfl (l' := #[.val (.int p1), .val (.int p2), .val (.int p3), .val (.ref b1), .val (.int i), .val (.int se), .val (.int c6), .val (.int (1 : Int32))]) rfl k) ?_
          show own_G _ _ _ _ _ _ _ (T29.setTop (mkF m 90 #[.val (.int p1), .val (.int p2), .val (.int p3), .val (.ref b1), .val (.int i), .val (.int se), .val (.int c6), .val (.int (1 : Int32))] []))
          refine own_st (fun t k => XS.goto X29.here hx rfl (pc0 := 90) (pc' := 147) rfl (hb hby at_90) (by decide) (by decide) k) ?_
          show own_G _ _ _ _ _ _ _ (T29.setTop (mkF m 147 #[.val (.int p1), .val (.int p2), .val (.int p3), .val (.ref b1), .val (.int i), .val (.int se), .val (.int c6), .val (.int (1 : Int32))] []))
          exact Kt _ (by decide) (by rcases hi with rfl | rfl | rfl | rfl <;> simp_all [own_after, own_at, d_UNQUOTED_CELL_START, Ne.symm d_UNQUOTED_CELL_START, d_QUOTED_CELL_START, Ne.symm d_QUOTED_CELL_START, d_QUOTED_UNQUOTED, Ne.symm d_QUOTED_UNQUOTED, d_AFTER_QUOTE_CELL_START, Ne.symm d_AFTER_QUOTE_CELL_START, d_AFTER_QUOTE_UNQUOTED, Ne.symm d_AFTER_QUOTE_UNQUOTED, d_AFTER_QUOTE_QUOTED, Ne.symm d_AFTER_QUOTE_QUOTED])
        · refine own_st (fun t k => XS.icmpYes X29.here hx rfl (pc0 := 84) (pc' := 93) rfl (hb hby at_84) rfl (feq k1).2 (by decide) (by decide) k) ?_
          show own_G _ _ _ _ _ _ _ (T29.setTop (mkF m 93 #[.val (.int p1), .val (.int p2), .val (.int p3), .val (.ref b1), .val (.int i), .val (.int se), .val (.int c6), .unset] []))
          refine own_st (fun t k => XS.iload X29.here hx rfl (hb hby at_93) rfl k) ?_
          show own_G _ _ _ _ _ _ _ (T29.setTop (mkF m 95 #[.val (.int p1), .val (.int p2), .val (.int p3), .val (.ref b1), .val (.int i), .val (.int se), .val (.int c6), .unset] [(.int i)]))
          refine own_st (fun t k => XS.iconst X29.here hx rfl (hb hby at_95) k) ?_
          show own_G _ _ _ _ _ _ _ (T29.setTop (mkF m 96 #[.val (.int p1), .val (.int p2), .val (.int p3), .val (.ref b1), .val (.int i), .val (.int se), .val (.int c6), .unset] [(.int (2 : Int32)), (.int i)]))
          by_cases k2 : i = (2 : Int32)
          · refine own_st (fun t k => XS.icmpNo X29.here hx rfl (hb hby at_96) rfl (teq k2).2 k) ?_
            show own_G _ _ _ _ _ _ _ (T29.setTop (mkF m 99 #[.val (.int p1), .val (.int p2), .val (.int p3), .val (.ref b1), .val (.int i), .val (.int se), .val (.int c6), .unset] []))
            refine own_st (fun t k => XS.iconst X29.here hx rfl (hb hby at_99) k) ?_
            show own_G _ _ _ _ _ _ _ (T29.setTop (mkF m 100 #[.val (.int p1), .val (.int p2), .val (.int p3), .val (.ref b1), .val (.int i), .val (.int se), .val (.int c6), .unset] [(.int (3 : Int32))]))
            refine own_st (fun t k => XS.istore X29.here hx rfl (hb hby at_100) rfl (l' := #[.val (.int p1), .val (.int p2), .val (.int p3), .val (.ref b1), .val (.int i), .val (.int se), .val (.int c6), .val (.int (3 : Int32))]) rfl k) ?_
            show own_G _ _ _ _ _ _ _ (T29.setTop (mkF m 102 #[.val (.int p1), .val (.int p2), .val (.int p3), .val (.ref b1), .val (.int i), .val (.int se), .val (.int c6), .val (.int (3 : Int32))] []))
            refine own_st (fun t k => XS.goto X29.here hx rfl (pc0 := 102) (pc' := 147) rfl (hb hby at_102) (by decide) (by decide) k) ?_
            show own_G _ _ _ _ _ _ _ (T29.setTop (mkF m 147 #[.val (.int p1), .val (.int p2), .val (.int p3), .val (.ref b1), .val (.int i), .val (.int se), .val (.int c6), .val (.int (3 : Int32))] []))
            exact Kt _ (by decide) (by rcases hi with rfl | rfl | rfl | rfl <;> simp_all [own_after, own_at, d_UNQUOTED_CELL_START, Ne.symm d_UNQUOTED_CELL_START, d_QUOTED_CELL_START, Ne.symm d_QUOTED_CELL_START, d_QUOTED_UNQUOTED, Ne.symm d_QUOTED_UNQUOTED, d_AFTER_QUOTE_CELL_START, Ne.symm d_AFTER_QUOTE_CELL_START, d_AFTER_QUOTE_UNQUOTED, Ne.symm d_AFTER_QUOTE_UNQUOTED, d_AFTER_QUOTE_QUOTED, Ne.symm d_AFTER_QUOTE_QUOTED])
          · refine own_st (fun t k => XS.icmpYes X29.here hx rfl (pc0 := 96) (pc' := 105) rfl (hb hby at_96) rfl (feq k2).2 (by decide) (by decide) k) ?_
            show own_G _ _ _ _ _ _ _ (T29.setTop (mkF m 105 #[.val (.int p1), .val (.int p2), .val (.int p3), .val (.ref b1), .val (.int i), .val (.int se), .val (.int c6), .unset] []))
            refine own_st (fun t k => XS.iconst X29.here hx rfl (hb hby at_105) k) ?_
            show own_G _ _ _ _ _ _ _ (T29.setTop (mkF m 106 #[.val (.int p1), .val (.int p2), .val (.int p3), .val (.ref b1), .val (.int i), .val (.int se), .val (.int c6), .unset] [(.int (2 : Int32))]))
            refine own_st (fun t k => XS.istore X29.here hx rfl (hb hby at_106) rfl (l' := #[.val (.int p1), .val (.int p2), .val (.int p3), .val (.ref b1), .val (.int i), .val (.int se), .val (.int c6), .val (.int (2 : Int32))]) rfl k) ?_
            show own_G _ _ _ _ _ _ _ (T29.setTop (mkF m 108 #[.val (.int p1), .val (.int p2), .val (.int p3), .val (.ref b1), .val (.int i), .val (.int se), .val (.int c6), .val (.int (2 : Int32))] []))
            refine own_st (fun t k => XS.goto X29.here hx rfl (pc0 := 108) (pc' := 147) rfl (hb hby at_108) (by decide) (by decide) k) ?_
            show own_G _ _ _ _ _ _ _ (T29.setTop (mkF m 147 #[.val (.int p1), .val (.int p2), .val (.int p3), .val (.ref b1), .val (.int i), .val (.int se), .val (.int c6), .val (.int (2 : Int32))] []))
            exact Kt _ (by decide) (by rcases hi with rfl | rfl | rfl | rfl <;> simp_all [own_after, own_at, d_UNQUOTED_CELL_START, Ne.symm d_UNQUOTED_CELL_START, d_QUOTED_CELL_START, Ne.symm d_QUOTED_CELL_START, d_QUOTED_UNQUOTED, Ne.symm d_QUOTED_UNQUOTED, d_AFTER_QUOTE_CELL_START, Ne.symm d_AFTER_QUOTE_CELL_START, d_AFTER_QUOTE_UNQUOTED, Ne.symm d_AFTER_QUOTE_UNQUOTED, d_AFTER_QUOTE_QUOTED, Ne.symm d_AFTER_QUOTE_QUOTED])
    · refine own_st (fun t k => XS.icmpYes X29.here hx rfl (pc0 := 67) (pc' := 111) rfl (hb hby at_67) rfl (feq k34).2 (by decide) (by decide) k) ?_
      show own_G _ _ _ _ _ _ _ (T29.setTop (mkF m 111 #[.val (.int p1), .val (.int p2), .val (.int p3), .val (.ref b1), .val (.int i), .val (.int se), .val (.int c6), .unset] []))
      refine own_st (fun t k => XS.iload X29.here hx rfl (hb hby at_111) rfl k) ?_
      show own_G _ _ _ _ _ _ _ (T29.setTop (mkF m 113 #[.val (.int p1), .val (.int p2), .val (.int p3), .val (.ref b1), .val (.int i), .val (.int se), .val (.int c6), .unset] [(.int c6)]))
      refine own_st (fun t k => XS.bipush X29.here hx rfl (hb hby at_113) k) ?_
      show own_G _ _ _ _ _ _ _ (T29.setTop (mkF m 115 #[.val (.int p1), .val (.int p2), .val (.int p3), .val (.ref b1), .val (.int i), .val (.int se), .val (.int c6), .unset] [(.int (44 : Int32)), (.int c6)]))
      by_cases k44 : c6 = (44 : Int32)
      · refine own_st (fun t k => XS.icmpNo X29.here hx rfl (hb hby at_115) rfl (teq k44).2 k) ?_
        show own_G _ _ _ _ _ _ _ (T29.setTop (mkF m 118 #[.val (.int p1), .val (.int p2), .val (.int p3), .val (.ref b1), .val (.int i), .val (.int se), .val (.int c6), .unset] []))
        refine own_st (fun t k => XS.iload X29.here hx rfl (hb hby at_118) rfl k) ?_
        show own_G _ _ _ _ _ _ _ (T29.setTop (mkF m 120 #[.val (.int p1), .val (.int p2), .val (.int p3), .val (.ref b1), .val (.int i), .val (.int se), .val (.int c6), .unset] [(.int i)]))
        refine own_st (fun t k => XS.iconst X29.here hx rfl (hb hby at_120) k) ?_
        show own_G _ _ _ _ _ _ _ (T29.setTop (mkF m 121 #[.val (.int p1), .val (.int p2), .val (.int p3), .val (.ref b1), .val (.int i), .val (.int se), .val (.int c6), .unset] [(.int (2 : Int32)), (.int i)]))
        by_cases k2 : i = (2 : Int32)
        · refine own_st (fun t k => XS.icmpNo X29.here hx rfl (hb hby at_121) rfl (teq k2).2 k) ?_
          show own_G _ _ _ _ _ _ _ (T29.setTop (mkF m 124 #[.val (.int p1), .val (.int p2), .val (.int p3), .val (.ref b1), .val (.int i), .val (.int se), .val (.int c6), .unset] []))
          refine own_st (fun t k => XS.iconst X29.here hx rfl (hb hby at_124) k) ?_
          show own_G _ _ _ _ _ _ _ (T29.setTop (mkF m 125 #[.val (.int p1), .val (.int p2), .val (.int p3), .val (.ref b1), .val (.int i), .val (.int se), .val (.int c6), .unset] [(.int (2 : Int32))]))
          refine own_st (fun t k => XS.goto X29.here hx rfl (pc0 := 125) (pc' := 129) rfl (hb hby at_125) (by decide) (by decide) k) ?_
          show own_G _ _ _ _ _ _ _ (T29.setTop (mkF m 129 #[.val (.int p1), .val (.int p2), .val (.int p3), .val (.ref b1), .val (.int i), .val (.int se), .val (.int c6), .unset] [(.int (2 : Int32))]))
          refine own_st (fun t k => XS.istore X29.here hx rfl (hb hby at_129) rfl (l' := #[.val (.int p1), .val (.int p2), .val (.int p3), .val (.ref b1), .val (.int i), .val (.int se), .val (.int c6), .val (.int (2 : Int32))]) rfl k) ?_
          show own_G _ _ _ _ _ _ _ (T29.setTop (mkF m 131 #[.val (.int p1), .val (.int p2), .val (.int p3), .val (.ref b1), .val (.int i), .val (.int se), .val (.int c6), .val (.int (2 : Int32))] []))
          refine own_st (fun t k => XS.goto X29.here hx rfl (pc0 := 131) (pc' := 147) rfl (hb hby at_131) (by decide) (by decide) k) ?_
          show own_G _ _ _ _ _ _ _ (T29.setTop (mkF m 147 #[.val (.int p1), .val (.int p2), .val (.int p3), .val (.ref b1), .val (.int i), .val (.int se), .val (.int c6), .val (.int (2 : Int32))] []))
          exact Kt _ (by decide) (by rcases hi with rfl | rfl | rfl | rfl <;> simp_all [own_after, own_at, d_UNQUOTED_CELL_START, Ne.symm d_UNQUOTED_CELL_START, d_QUOTED_CELL_START, Ne.symm d_QUOTED_CELL_START, d_QUOTED_UNQUOTED, Ne.symm d_QUOTED_UNQUOTED, d_AFTER_QUOTE_CELL_START, Ne.symm d_AFTER_QUOTE_CELL_START, d_AFTER_QUOTE_UNQUOTED, Ne.symm d_AFTER_QUOTE_UNQUOTED, d_AFTER_QUOTE_QUOTED, Ne.symm d_AFTER_QUOTE_QUOTED])
        · refine own_st (fun t k => XS.icmpYes X29.here hx rfl (pc0 := 121) (pc' := 128) rfl (hb hby at_121) rfl (feq k2).2 (by decide) (by decide) k) ?_
          show own_G _ _ _ _ _ _ _ (T29.setTop (mkF m 128 #[.val (.int p1), .val (.int p2), .val (.int p3), .val (.ref b1), .val (.int i), .val (.int se), .val (.int c6), .unset] []))
          refine own_st (fun t k => XS.iconst X29.here hx rfl (hb hby at_128) k) ?_
          show own_G _ _ _ _ _ _ _ (T29.setTop (mkF m 129 #[.val (.int p1), .val (.int p2), .val (.int p3), .val (.ref b1), .val (.int i), .val (.int se), .val (.int c6), .unset] [(.int (0 : Int32))]))
          refine own_st (fun t k => XS.istore X29.here hx rfl (hb hby at_129) rfl (l' := #[.val (.int p1), .val (.int p2), .val (.int p3), .val (.ref b1), .val (.int i), .val (.int se), .val (.int c6), .val (.int (0 : Int32))]) rfl k) ?_
          show own_G _ _ _ _ _ _ _ (T29.setTop (mkF m 131 #[.val (.int p1), .val (.int p2), .val (.int p3), .val (.ref b1), .val (.int i), .val (.int se), .val (.int c6), .val (.int (0 : Int32))] []))
          refine own_st (fun t k => XS.goto X29.here hx rfl (pc0 := 131) (pc' := 147) rfl (hb hby at_131) (by decide) (by decide) k) ?_
          show own_G _ _ _ _ _ _ _ (T29.setTop (mkF m 147 #[.val (.int p1), .val (.int p2), .val (.int p3), .val (.ref b1), .val (.int i), .val (.int se), .val (.int c6), .val (.int (0 : Int32))] []))
          exact Kt _ (by decide) (by rcases hi with rfl | rfl | rfl | rfl <;> simp_all [own_after, own_at, d_UNQUOTED_CELL_START, Ne.symm d_UNQUOTED_CELL_START, d_QUOTED_CELL_START, Ne.symm d_QUOTED_CELL_START, d_QUOTED_UNQUOTED, Ne.symm d_QUOTED_UNQUOTED, d_AFTER_QUOTE_CELL_START, Ne.symm d_AFTER_QUOTE_CELL_START, d_AFTER_QUOTE_UNQUOTED, Ne.symm d_AFTER_QUOTE_UNQUOTED, d_AFTER_QUOTE_QUOTED, Ne.symm d_AFTER_QUOTE_QUOTED])
      · refine own_st (fun t k => XS.icmpYes X29.here hx rfl (pc0 := 115) (pc' := 134) rfl (hb hby at_115) rfl (feq k44).2 (by decide) (by decide) k) ?_
        show own_G _ _ _ _ _ _ _ (T29.setTop (mkF m 134 #[.val (.int p1), .val (.int p2), .val (.int p3), .val (.ref b1), .val (.int i), .val (.int se), .val (.int c6), .unset] []))
        refine own_st (fun t k => XS.iload X29.here hx rfl (hb hby at_134) rfl k) ?_
        show own_G _ _ _ _ _ _ _ (T29.setTop (mkF m 136 #[.val (.int p1), .val (.int p2), .val (.int p3), .val (.ref b1), .val (.int i), .val (.int se), .val (.int c6), .unset] [(.int i)]))
        refine own_st (fun t k => XS.iconst X29.here hx rfl (hb hby at_136) k) ?_
        show own_G _ _ _ _ _ _ _ (T29.setTop (mkF m 137 #[.val (.int p1), .val (.int p2), .val (.int p3), .val (.ref b1), .val (.int i), .val (.int se), .val (.int c6), .unset] [(.int (2 : Int32)), (.int i)]))
        by_cases k2 : i = (2 : Int32)
        · refine own_st (fun t k => XS.icmpNo X29.here hx rfl (hb hby at_137) rfl (teq k2).2 k) ?_
          show own_G _ _ _ _ _ _ _ (T29.setTop (mkF m 140 #[.val (.int p1), .val (.int p2), .val (.int p3), .val (.ref b1), .val (.int i), .val (.int se), .val (.int c6), .unset] []))
          refine own_st (fun t k => XS.iconst X29.here hx rfl (hb hby at_140) k) ?_
          show own_G _ _ _ _ _ _ _ (T29.setTop (mkF m 141 #[.val (.int p1), .val (.int p2), .val (.int p3), .val (.ref b1), .val (.int i), .val (.int se), .val (.int c6), .unset] [(.int (2 : Int32))]))
          refine own_st (fun t k => XS.goto X29.here hx rfl (pc0 := 141) (pc' := 145) rfl (hb hby at_141) (by decide) (by decide) k) ?_
          show own_G _ _ _ _ _ _ _ (T29.setTop (mkF m 145 #[.val (.int p1), .val (.int p2), .val (.int p3), .val (.ref b1), .val (.int i), .val (.int se), .val (.int c6), .unset] [(.int (2 : Int32))]))
          refine own_st (fun t k => XS.istore X29.here hx rfl (hb hby at_145) rfl (l' := #[.val (.int p1), .val (.int p2), .val (.int p3), .val (.ref b1), .val (.int i), .val (.int se), .val (.int c6), .val (.int (2 : Int32))]) rfl k) ?_
          show own_G _ _ _ _ _ _ _ (T29.setTop (mkF m 147 #[.val (.int p1), .val (.int p2), .val (.int p3), .val (.ref b1), .val (.int i), .val (.int se), .val (.int c6), .val (.int (2 : Int32))] []))
          exact Kt _ (by decide) (by rcases hi with rfl | rfl | rfl | rfl <;> simp_all [own_after, own_at, d_UNQUOTED_CELL_START, Ne.symm d_UNQUOTED_CELL_START, d_QUOTED_CELL_START, Ne.symm d_QUOTED_CELL_START, d_QUOTED_UNQUOTED, Ne.symm d_QUOTED_UNQUOTED, d_AFTER_QUOTE_CELL_START, Ne.symm d_AFTER_QUOTE_CELL_START, d_AFTER_QUOTE_UNQUOTED, Ne.symm d_AFTER_QUOTE_UNQUOTED, d_AFTER_QUOTE_QUOTED, Ne.symm d_AFTER_QUOTE_QUOTED])
        · refine own_st (fun t k => XS.icmpYes X29.here hx rfl (pc0 := 137) (pc' := 144) rfl (hb hby at_137) rfl (feq k2).2 (by decide) (by decide) k) ?_
          show own_G _ _ _ _ _ _ _ (T29.setTop (mkF m 144 #[.val (.int p1), .val (.int p2), .val (.int p3), .val (.ref b1), .val (.int i), .val (.int se), .val (.int c6), .unset] []))
          refine own_st (fun t k => XS.iconst X29.here hx rfl (hb hby at_144) k) ?_
          show own_G _ _ _ _ _ _ _ (T29.setTop (mkF m 145 #[.val (.int p1), .val (.int p2), .val (.int p3), .val (.ref b1), .val (.int i), .val (.int se), .val (.int c6), .unset] [(.int (1 : Int32))]))
          refine own_st (fun t k => XS.istore X29.here hx rfl (hb hby at_145) rfl (l' := #[.val (.int p1), .val (.int p2), .val (.int p3), .val (.ref b1), .val (.int i), .val (.int se), .val (.int c6), .val (.int (1 : Int32))]) rfl k) ?_
          show own_G _ _ _ _ _ _ _ (T29.setTop (mkF m 147 #[.val (.int p1), .val (.int p2), .val (.int p3), .val (.ref b1), .val (.int i), .val (.int se), .val (.int c6), .val (.int (1 : Int32))] []))
          exact Kt _ (by decide) (by rcases hi with rfl | rfl | rfl | rfl <;> simp_all [own_after, own_at, d_UNQUOTED_CELL_START, Ne.symm d_UNQUOTED_CELL_START, d_QUOTED_CELL_START, Ne.symm d_QUOTED_CELL_START, d_QUOTED_UNQUOTED, Ne.symm d_QUOTED_UNQUOTED, d_AFTER_QUOTE_CELL_START, Ne.symm d_AFTER_QUOTE_CELL_START, d_AFTER_QUOTE_UNQUOTED, Ne.symm d_AFTER_QUOTE_UNQUOTED, d_AFTER_QUOTE_QUOTED, Ne.symm d_AFTER_QUOTE_QUOTED])
  refine own_st (fun t k => XS.iload X29.here hx rfl (hb hby at_39) rfl k) ?_
  show own_G _ _ _ _ _ _ _ (T29.setTop (mkF m 41 #[.val (.int p1), .val (.int p2), .val (.int p3), .val (.ref b1), .val (.int i), .val (.int se), .unset, .unset] [(.int se)]))
  by_cases s0 : se = (0 : Int32)
  · refine own_st (fun t k => XS.ifNo X29.here hx rfl (hb hby at_41) rfl ((if0 _ _).trans (teq s0).2) k) ?_
    show own_G _ _ _ _ _ _ _ (T29.setTop (mkF m 44 #[.val (.int p1), .val (.int p2), .val (.int p3), .val (.ref b1), .val (.int i), .val (.int se), .unset, .unset] []))
    refine own_st (fun t k => XS.bipush X29.here hx rfl (hb hby at_44) k) ?_
    show own_G _ _ _ _ _ _ _ (T29.setTop (mkF m 46 #[.val (.int p1), .val (.int p2), .val (.int p3), .val (.ref b1), .val (.int i), .val (.int se), .unset, .unset] [(.int (34 : Int32))]))
    refine own_st (fun t k => XS.goto X29.here hx rfl (pc0 := 46) (pc' := 61) rfl (hb hby at_46) (by decide) (by decide) k) ?_
    show own_G _ _ _ _ _ _ _ (T29.setTop (mkF m 61 #[.val (.int p1), .val (.int p2), .val (.int p3), .val (.ref b1), .val (.int i), .val (.int se), .unset, .unset] [(.int (34 : Int32))]))
    refine own_st (fun t k => XS.istore X29.here hx rfl (hb hby at_61) rfl (l' := #[.val (.int p1), .val (.int p2), .val (.int p3), .val (.ref b1), .val (.int i), .val (.int se), .val (.int (34 : Int32)), .unset]) rfl k) ?_
    show own_G _ _ _ _ _ _ _ (T29.setTop (mkF m 63 #[.val (.int p1), .val (.int p2), .val (.int p3), .val (.ref b1), .val (.int i), .val (.int se), .val (.int (34 : Int32)), .unset] []))
    exact J _
  · refine own_st (fun t k => XS.ifYes X29.here hx rfl (pc0 := 41) (pc' := 49) rfl (hb hby at_41) rfl ((if0 _ _).trans (feq s0).2) (by decide) (by decide) k) ?_
    show own_G _ _ _ _ _ _ _ (T29.setTop (mkF m 49 #[.val (.int p1), .val (.int p2), .val (.int p3), .val (.ref b1), .val (.int i), .val (.int se), .unset, .unset] []))
    refine own_st (fun t k => XS.iload X29.here hx rfl (hb hby at_49) rfl k) ?_
    show own_G _ _ _ _ _ _ _ (T29.setTop (mkF m 51 #[.val (.int p1), .val (.int p2), .val (.int p3), .val (.ref b1), .val (.int i), .val (.int se), .unset, .unset] [(.int se)]))
    refine own_st (fun t k => XS.iconst X29.here hx rfl (hb hby at_51) k) ?_
    show own_G _ _ _ _ _ _ _ (T29.setTop (mkF m 52 #[.val (.int p1), .val (.int p2), .val (.int p3), .val (.ref b1), .val (.int i), .val (.int se), .unset, .unset] [(.int (1 : Int32)), (.int se)]))
    by_cases s1 : se = (1 : Int32)
    · refine own_st (fun t k => XS.icmpNo X29.here hx rfl (hb hby at_52) rfl (teq s1).2 k) ?_
      show own_G _ _ _ _ _ _ _ (T29.setTop (mkF m 55 #[.val (.int p1), .val (.int p2), .val (.int p3), .val (.ref b1), .val (.int i), .val (.int se), .unset, .unset] []))
      refine own_st (fun t k => XS.bipush X29.here hx rfl (hb hby at_55) k) ?_
      show own_G _ _ _ _ _ _ _ (T29.setTop (mkF m 57 #[.val (.int p1), .val (.int p2), .val (.int p3), .val (.ref b1), .val (.int i), .val (.int se), .unset, .unset] [(.int (44 : Int32))]))
      refine own_st (fun t k => XS.goto X29.here hx rfl (pc0 := 57) (pc' := 61) rfl (hb hby at_57) (by decide) (by decide) k) ?_
      show own_G _ _ _ _ _ _ _ (T29.setTop (mkF m 61 #[.val (.int p1), .val (.int p2), .val (.int p3), .val (.ref b1), .val (.int i), .val (.int se), .unset, .unset] [(.int (44 : Int32))]))
      refine own_st (fun t k => XS.istore X29.here hx rfl (hb hby at_61) rfl (l' := #[.val (.int p1), .val (.int p2), .val (.int p3), .val (.ref b1), .val (.int i), .val (.int se), .val (.int (44 : Int32)), .unset]) rfl k) ?_
      show own_G _ _ _ _ _ _ _ (T29.setTop (mkF m 63 #[.val (.int p1), .val (.int p2), .val (.int p3), .val (.ref b1), .val (.int i), .val (.int se), .val (.int (44 : Int32)), .unset] []))
      exact J _
    · refine own_st (fun t k => XS.icmpYes X29.here hx rfl (pc0 := 52) (pc' := 60) rfl (hb hby at_52) rfl (feq s1).2 (by decide) (by decide) k) ?_
      show own_G _ _ _ _ _ _ _ (T29.setTop (mkF m 60 #[.val (.int p1), .val (.int p2), .val (.int p3), .val (.ref b1), .val (.int i), .val (.int se), .unset, .unset] []))
      refine own_st (fun t k => XS.iloadN X29.here hx rfl (hb hby at_60) rfl k) ?_
      show own_G _ _ _ _ _ _ _ (T29.setTop (mkF m 61 #[.val (.int p1), .val (.int p2), .val (.int p3), .val (.ref b1), .val (.int i), .val (.int se), .unset, .unset] [(.int p3)]))
      refine own_st (fun t k => XS.istore X29.here hx rfl (hb hby at_61) rfl (l' := #[.val (.int p1), .val (.int p2), .val (.int p3), .val (.ref b1), .val (.int i), .val (.int se), .val (.int p3), .unset]) rfl k) ?_
      show own_G _ _ _ _ _ _ _ (T29.setTop (mkF m 63 #[.val (.int p1), .val (.int p2), .val (.int p3), .val (.ref b1), .val (.int i), .val (.int se), .val (.int p3), .unset] []))
      exact J _
set_option maxRecDepth 65536 in
set_option maxHeartbeats 40000000 in
theorem own_comes {Post : Tables → Env → Array Value → State → Outcome → State → Prop} (hpost : ∀ tb e args s v u, (limb_1_1.after args s (.returned v) u = true ∧ limb_1_2.after args s (.returned v) u = true ∧ True) → FrameEnd s (.returned v) u (Jvm.fieldLocs frame_1_writes args s ++ Jvm.arrayLocs frame_1_arrays args s ++ Jvm.staticLocs frame_1_statics s) 16 128 → Post tb e args s (.returned v) u) :
    ArmFor flags0 classFile x code maxLocals ret World_1 tables_1 room_1 Calls_1 rest_1 Pre_1 Post := by
  intro l hfl _ _ p e ha hc hk s m args below hf hA hF happ hP
  obtain ⟨hcalls, hrest, hpre⟩ := hP
  obtain ⟨-, -, -, hnamed, -, -, -, hat⟩ := (Spec.applies_iff hf).mp happ
  obtain ⟨hg, hn⟩ := and_e (Cond.before_iff.mp (show (Jvm.Cond.and given_1 narrow_1).before args s = true from hpre))
  obtain ⟨gc, ga0⟩ := and_e hg
  obtain ⟨gi0, ga1⟩ := and_e ga0
  obtain ⟨gi1, ga2⟩ := and_e ga1
  obtain ⟨w0, w1, w2, rfl⟩ : ∃ w0 w1 w2 : Value, args = #[w0, w1, w2] := by
    have hs : args.size = 3 := by simpa [Cond.value, given_1] using gc
    obtain ⟨L⟩ := args
    match L, hs with
    | [w0, w1, w2], _ => exact ⟨w0, w1, w2, rfl⟩
  have hw := fun d (hd : d ∈ tables_1) => atoms_spec (ws := Jvm.Cond.code x code maxLocals ret :: tables_1) hat d (List.mem_cons_of_mem _ hd)
  have hfit : Fit s := fun {y c} hc i hi => by
    obtain ⟨ha, rfl⟩ := Array.getElem?_eq_some_iff.mp hc
    have q := List.all_eq_true.mp ((Array.all_eq_true_iff_forall_mem.mp hF) _ (Array.getElem_mem ha)) i (List.mem_range.mpr hi)
    simpa [Array.getElem?_eq_getElem hi] using q
  obtain ⟨i0, ei0⟩ := is_v gi0
  obtain rfl : w0 = (.int i0) := Option.some.inj ei0
  obtain ⟨i1, ei1⟩ := is_v gi1
  obtain rfl : w1 = (.int i1) := Option.some.inj ei1
  obtain ⟨i2, ei2⟩ := is_v ga2
  obtain rfl : w2 = (.int i2) := Option.some.inj ei2
  obtain ⟨nr0, nq0⟩ := and_e hn
  obtain ⟨nr1, nq1⟩ := and_e nq0
  obtain ⟨nr2, nq2⟩ := and_e nq1
  obtain ⟨nr3, nq3⟩ := and_e nq2
  obtain ⟨nr4, nq4⟩ := and_e nq3
  obtain ⟨nr5, nq5⟩ := and_e nq4
  obtain ⟨nr6, nq6⟩ := and_e nq5
  obtain ⟨c_CELL_START, ev_CELL_START⟩ := exa_v nr0
  have A_CELL_START := Exa.start ev_CELL_START nr0
  have S_CELL_START := Sta.start ev_CELL_START (Or.inr ⟨(hw _ (List.mem_of_getElem? (i := 3) rfl)), (hw _ (List.mem_of_getElem? (i := 4) rfl))⟩)
  have O_CELL_START := own_ord ev_CELL_START nr4
  obtain ⟨c_UNQUOTED, ev_UNQUOTED⟩ := exa_v nr1
  have A_UNQUOTED := Exa.start ev_UNQUOTED nr1
  have S_UNQUOTED := Sta.start ev_UNQUOTED (Or.inr ⟨(hw _ (List.mem_of_getElem? (i := 3) rfl)), (hw _ (List.mem_of_getElem? (i := 7) rfl))⟩)
  have O_UNQUOTED := own_ord ev_UNQUOTED nr6
  obtain ⟨c_QUOTED, ev_QUOTED⟩ := exa_v nr2
  have A_QUOTED := Exa.start ev_QUOTED nr2
  have S_QUOTED := Sta.start ev_QUOTED (Or.inr ⟨(hw _ (List.mem_of_getElem? (i := 3) rfl)), (hw _ (List.mem_of_getElem? (i := 9) rfl))⟩)
  have O_QUOTED := own_ord ev_QUOTED nr5
  obtain ⟨c_AFTER_QUOTE, ev_AFTER_QUOTE⟩ := exa_v nr3
  have A_AFTER_QUOTE := Exa.start ev_AFTER_QUOTE nr3
  have S_AFTER_QUOTE := Sta.start ev_AFTER_QUOTE (Or.inr ⟨(hw _ (List.mem_of_getElem? (i := 3) rfl)), (hw _ (List.mem_of_getElem? (i := 11) rfl))⟩)
  have O_AFTER_QUOTE := own_ord ev_AFTER_QUOTE nq6
  have d_UNQUOTED_CELL_START : ¬ c_UNQUOTED = c_CELL_START := Fld.ne O_UNQUOTED O_CELL_START (fun q => absurd (Value.int.inj q) (by decide))
  have d_QUOTED_CELL_START : ¬ c_QUOTED = c_CELL_START := Fld.ne O_QUOTED O_CELL_START (fun q => absurd (Value.int.inj q) (by decide))
  have d_QUOTED_UNQUOTED : ¬ c_QUOTED = c_UNQUOTED := Fld.ne O_QUOTED O_UNQUOTED (fun q => absurd (Value.int.inj q) (by decide))
  have d_AFTER_QUOTE_CELL_START : ¬ c_AFTER_QUOTE = c_CELL_START := Fld.ne O_AFTER_QUOTE O_CELL_START (fun q => absurd (Value.int.inj q) (by decide))
  have d_AFTER_QUOTE_UNQUOTED : ¬ c_AFTER_QUOTE = c_UNQUOTED := Fld.ne O_AFTER_QUOTE O_UNQUOTED (fun q => absurd (Value.int.inj q) (by decide))
  have d_AFTER_QUOTE_QUOTED : ¬ c_AFTER_QUOTE = c_QUOTED := Fld.ne O_AFTER_QUOTE O_QUOTED (fun q => absurd (Value.int.inj q) (by decide))
  obtain ⟨n, o, h1, h2, h3, _, L, rfl, ⟨rfl, N⟩, hq⟩ := own_rm0 l s _ hw tables_1 i0 i1 i2 c_CELL_START c_UNQUOTED c_QUOTED c_AFTER_QUOTE s.heap s.heap.size (Nat.le_refl _) (Old.start s) S_CELL_START A_CELL_START S_UNQUOTED A_UNQUOTED S_QUOTED A_QUOTED S_AFTER_QUOTE A_AFTER_QUOTE d_UNQUOTED_CELL_START d_QUOTED_CELL_START d_QUOTED_UNQUOTED d_AFTER_QUOTE_CELL_START d_AFTER_QUOTE_UNQUOTED d_AFTER_QUOTE_QUOTED p e ha hc hk s m _ below hf ((Spec.applies_iff_loose hf).mp happ).1 ⟨rfl, State.Warmed39.refl s, rfl⟩ trivial
  refine ⟨n, _, h1, h2, h3, hpost _ _ _ _ _ _ ⟨Cond.after_iff.mpr rfl, Cond.after_iff.mpr (eq_i res_at (Term.int_eval (1)) rfl), trivial⟩ ⟨hq.1, hq.2.1, (hq.2.2.sift fun y hy => Or.inr (N y hy)).mono (by decide) (by decide)⟩⟩
theorem main_1_1 : Claimed_1_1 := own_comes fun _ _ _ _ _ _ h hF => ⟨h.1, hF⟩
theorem main_1_2 : Claimed_1_2 := own_comes fun _ _ _ _ _ _ h hF => ⟨h.2.1, hF⟩
end Jvm.Pilot.@@N@@
namespace Jvm.Pilot.@@N@@
open Jvm Jvm.ClassFile Sem Op Lib Jvm.Free Jvm.Stand Jvm.Pilot.@@N@@.Jvm.D
/-! MADE BY PROGRAM (witnessworld.py) out of the Statement's table words and the real class files: 13 classes; the members and pool entries that the words name. The judged class is class 1, her method 1. -/
namespace start1
open Jvm.ClassFile
def u (s : String) : CpInfo := .utf8 (stringToUtf16 s)
/-- a pool by its gaps: so many unusable entries, then the entry; so many at the end -/
def gap : Nat → List CpInfo → List CpInfo
  | 0, r => r
  | n + 1, r => .unusable :: gap n r
def poolList (es : List (Nat × CpInfo)) (last : Nat) : List CpInfo := es.foldr (fun e r => gap e.1 (e.2 :: r)) (gap last [])
def pool (es : List (Nat × CpInfo)) (last : Nat) : Array CpInfo := ⟨poolList es last⟩
def fileOf (pool : Array CpInfo) (this : Nat) (attrs : Array Attribute := #[]) (ms : Array MethodInfo := #[]) (fl : Nat := 33) (sup : Nat := 0) (ifs : Array Nat := #[]) (fds : Array FieldInfo := #[]) : ClassFile where
  minorVersion := 0
  majorVersion := 65
  constantPool := pool
  accessFlags := fl
  thisClass := this
  superClass := sup
  interfaces := ifs
  fields := fds
  methods := ms
  attributes := attrs
def plain (name : String) (sup : Option ClassId) : Class where
  name := name
  kind := .ordinary
  loader := none
  accessFlags := 33
  super := sup
  interfaces := #[]
  cf := none
  fields := #[]
  methods := #[]
  instanceTypes := #[]
  staticTypes := #[]
  resolved := #[]
  callSites := []
  init := .initialized
  statics := none
  mirror := none

def pool0 : Array CpInfo := pool [(5, u "<init>"), (0, u "()V"), (1, .class_ 10), (1, u "java/lang/Object")] 113

def k0m0 : Method := { name := "<init>", desc := "()V", sig := { parameters := [], returnType := none }, accessFlags := 1, code := none }
/-- java/lang/Object -/
def k0 : Class := { plain "java/lang/Object" none with
  accessFlags := 33
  interfaces := #[]
  cf := some (fileOf pool0 8 #[] #[{ accessFlags := 1, nameIndex := 5, descriptorIndex := 6, attributes := #[] }] 33 0 #[] #[])
  fields := #[]
  methods := #[k0m0]
  instanceTypes := #[]
  staticTypes := #[]
  resolved := Array.replicate 124 none
  statics := none }

def pool1 : Array CpInfo := pool [(2, .class_ 4), (1, u "java/lang/Object"), (0, u "<init>"), (0, u "()V"), (0, .class_ 8), (0, u "com/example/groveledger/groveledger/CsvPlace"), (0, .fieldref 7 10), (0, .nameAndType 11 12), (0, u "CELL_START"), (0, u "Lcom/example/groveledger/groveledger/CsvPlace;"), (0, .fieldref 7 14), (0, .nameAndType 15 12), (0, u "UNQUOTED"), (0, .fieldref 7 17), (0, .nameAndType 18 12), (0, u "QUOTED"), (0, .fieldref 7 20), (0, .nameAndType 21 12), (0, u "AFTER_QUOTE"), (0, .methodref 7 23), (0, .nameAndType 24 25), (0, u "after"), (0, u "(I)Lcom/example/groveledger/groveledger/CsvPlace;"), (0, .class_ 27), (0, u "com/example/groveledger/groveledger/CsvPlaceAfterPinLaw"), (2, u "law"), (0, u "(III)Z")] 5

def k1m0 : Method := { name := "<init>", desc := "()V", sig := { parameters := [], returnType := none }, accessFlags := 1, code := none }
def k1c1 : Code := { maxStack := 4, maxLocals := 8, code := code, exceptionTable := #[], attributes := #[] }
def k1m1 : Method := { name := "law", desc := "(III)Z", sig := { parameters := [.int, .int, .int], returnType := some .boolean }, accessFlags := 9, code := some k1c1 }
/-- com/example/groveledger/groveledger/CsvPlaceAfterPinLaw -/
def k1 : Class := { plain "com/example/groveledger/groveledger/CsvPlaceAfterPinLaw" (some 0) with
  accessFlags := 49
  interfaces := #[]
  cf := some (fileOf pool1 26 #[] #[{ accessFlags := 1, nameIndex := 5, descriptorIndex := 6, attributes := #[] }, { accessFlags := 9, nameIndex := 30, descriptorIndex := 31, attributes := #[] }] 49 2 #[] #[])
  fields := #[]
  methods := #[k1m0, k1m1]
  instanceTypes := #[]
  staticTypes := #[]
  resolved := Array.replicate 37 none
  statics := none }

def pool2 : Array CpInfo := pool [(1, .class_ 2), (0, u "java/lang/constant/Constable"), (0, .class_ 4), (0, u "java/lang/Object")] 6

/-- java/lang/constant/Constable -/
def k2 : Class := { plain "java/lang/constant/Constable" (some 0) with
  accessFlags := 1537
  interfaces := #[]
  cf := some (fileOf pool2 1 #[] #[] 1537 3 #[] #[])
  fields := #[]
  methods := #[]
  instanceTypes := #[]
  staticTypes := #[]
  resolved := Array.replicate 11 none
  statics := none }

def pool3 : Array CpInfo := pool [(1, .class_ 2), (0, u "java/lang/Comparable"), (0, .class_ 4), (0, u "java/lang/Object")] 7

/-- java/lang/Comparable -/
def k3 : Class := { plain "java/lang/Comparable" (some 0) with
  accessFlags := 1537
  interfaces := #[]
  cf := some (fileOf pool3 1 #[] #[] 1537 3 #[] #[])
  fields := #[]
  methods := #[]
  instanceTypes := #[]
  staticTypes := #[]
  resolved := Array.replicate 12 none
  statics := none }

def pool4 : Array CpInfo := pool [(1, .class_ 2), (0, u "java/io/Serializable"), (0, .class_ 4), (0, u "java/lang/Object")] 2

/-- java/io/Serializable -/
def k4 : Class := { plain "java/io/Serializable" (some 0) with
  accessFlags := 1537
  interfaces := #[]
  cf := some (fileOf pool4 1 #[] #[] 1537 3 #[] #[])
  fields := #[]
  methods := #[]
  instanceTypes := #[]
  staticTypes := #[]
  resolved := Array.replicate 7 none
  statics := none }

def pool5 : Array CpInfo := pool [(2, .class_ 4), (1, u "java/lang/Enum"), (0, u "name"), (0, u "Ljava/lang/String;"), (2, u "ordinal"), (0, u "I"), (1, .class_ 14), (1, u "java/lang/Object"), (4, u "hash"), (86, .class_ 108), (1, u "java/lang/Enum$EnumDesc"), (2, .class_ 112), (0, u "java/lang/constant/Constable"), (0, .class_ 114), (0, u "java/lang/Comparable"), (0, .class_ 116), (0, u "java/io/Serializable")] 87

/-- java/lang/Enum -/
def k5 : Class := { plain "java/lang/Enum" (some 0) with
  accessFlags := 1057
  interfaces := #[2, 3, 4]
  cf := some (fileOf pool5 2 #[.nestMembers #[106]] #[] 1057 12 #[111, 113, 115] #[{ accessFlags := 18, nameIndex := 5, descriptorIndex := 6, attributes := #[] }, { accessFlags := 18, nameIndex := 9, descriptorIndex := 10, attributes := #[] }, { accessFlags := 2, nameIndex := 19, descriptorIndex := 10, attributes := #[] }])
  fields := #[{ name := "name", type := (.object "java/lang/String"), accessFlags := 18, slot := 0, constantValue := 0 }, { name := "ordinal", type := .int, accessFlags := 18, slot := 1, constantValue := 0 }, { name := "hash", type := .int, accessFlags := 2, slot := 2, constantValue := 0 }]
  methods := #[]
  instanceTypes := #[(.object "java/lang/String"), .int, .int]
  staticTypes := #[]
  resolved := Array.replicate 204 none
  statics := none }

def pool6 : Array CpInfo := pool [(1, .class_ 2), (0, u "com/example/groveledger/groveledger/CsvPlace"), (0, .fieldref 1 4), (0, .nameAndType 5 6), (0, u "CELL_START"), (0, u "Lcom/example/groveledger/groveledger/CsvPlace;"), (0, .fieldref 1 8), (0, .nameAndType 9 6), (0, u "UNQUOTED"), (0, .fieldref 1 11), (0, .nameAndType 12 6), (0, u "QUOTED"), (0, .fieldref 1 14), (0, .nameAndType 15 6), (0, u "AFTER_QUOTE"), (2, u "$VALUES"), (0, u "[Lcom/example/groveledger/groveledger/CsvPlace;"), (6, .class_ 28), (1, u "java/lang/Enum"), (22, u "after"), (0, u "(I)Lcom/example/groveledger/groveledger/CsvPlace;")] 5

def k6c0 : Code := { maxStack := 2, maxLocals := 3, code := prog_2_method_4_code, exceptionTable := #[], attributes := #[] }
def k6m0 : Method := { name := "after", desc := "(I)Lcom/example/groveledger/groveledger/CsvPlace;", sig := { parameters := [.int], returnType := some (.object "com/example/groveledger/groveledger/CsvPlace") }, accessFlags := 0, code := some k6c0 }
/-- com/example/groveledger/groveledger/CsvPlace -/
def k6 : Class := { plain "com/example/groveledger/groveledger/CsvPlace" (some 5) with
  accessFlags := 16432
  interfaces := #[]
  cf := some (fileOf pool6 1 #[] #[{ accessFlags := 0, nameIndex := 51, descriptorIndex := 52, attributes := #[] }] 16432 26 #[] #[{ accessFlags := 16409, nameIndex := 5, descriptorIndex := 6, attributes := #[] }, { accessFlags := 16409, nameIndex := 9, descriptorIndex := 6, attributes := #[] }, { accessFlags := 16409, nameIndex := 12, descriptorIndex := 6, attributes := #[] }, { accessFlags := 16409, nameIndex := 15, descriptorIndex := 6, attributes := #[] }, { accessFlags := 4122, nameIndex := 18, descriptorIndex := 19, attributes := #[] }])
  fields := #[{ name := "CELL_START", type := (.object "com/example/groveledger/groveledger/CsvPlace"), accessFlags := 16409, slot := 0, constantValue := 0 }, { name := "UNQUOTED", type := (.object "com/example/groveledger/groveledger/CsvPlace"), accessFlags := 16409, slot := 1, constantValue := 0 }, { name := "QUOTED", type := (.object "com/example/groveledger/groveledger/CsvPlace"), accessFlags := 16409, slot := 2, constantValue := 0 }, { name := "AFTER_QUOTE", type := (.object "com/example/groveledger/groveledger/CsvPlace"), accessFlags := 16409, slot := 3, constantValue := 0 }, { name := "$VALUES", type := (.array (.object "com/example/groveledger/groveledger/CsvPlace")), accessFlags := 4122, slot := 4, constantValue := 0 }]
  methods := #[k6m0]
  instanceTypes := #[(.object "java/lang/String"), .int, .int]
  staticTypes := #[(.object "com/example/groveledger/groveledger/CsvPlace"), (.object "com/example/groveledger/groveledger/CsvPlace"), (.object "com/example/groveledger/groveledger/CsvPlace"), (.object "com/example/groveledger/groveledger/CsvPlace"), (.array (.object "com/example/groveledger/groveledger/CsvPlace"))]
  resolved := Array.replicate 58 none
  statics := some 0 }

def pool7 : Array CpInfo := pool [(1, u "java/lang/Cloneable"), (0, .class_ 1), (0, u "java/lang/Object"), (0, .class_ 3)] 3

/-- java/lang/Cloneable -/
def k7 : Class := { plain "java/lang/Cloneable" (some 0) with
  accessFlags := 1537
  interfaces := #[]
  cf := some (fileOf pool7 2 #[] #[] 1537 4 #[] #[])
  fields := #[]
  methods := #[]
  instanceTypes := #[]
  staticTypes := #[]
  resolved := Array.replicate 8 none
  statics := none }

/-- the primitive byte -/
def k8 : Class := { plain "byte" none with kind := .primitive 'B', accessFlags := 0x411 }
/-- [B -/
def k9 : Class := { plain "[B" (some 0) with kind := .array 8 .byte, interfaces := #[7, 4], accessFlags := 1041 }

/-- the primitive int -/
def k10 : Class := { plain "int" none with kind := .primitive 'I', accessFlags := 0x411 }
/-- [I -/
def k11 : Class := { plain "[I" (some 0) with kind := .array 10 .int, interfaces := #[7, 4], accessFlags := 1041 }

/-- [Lcom/example/groveledger/groveledger/CsvPlace; -/
def k12 : Class := { plain "[Lcom/example/groveledger/groveledger/CsvPlace;" (some 0) with kind := .array 6 (.object "com/example/groveledger/groveledger/CsvPlace"), interfaces := #[7, 4], accessFlags := 1041 }

def heap : Heap := #[{ cls := 6, slots := #[.ref 1, .ref 2, .ref 3, .ref 4, .null], vm := .statics 6 },
  { cls := 6, slots := #[.null, .int 0, .int 0], vm := .none },
  { cls := 6, slots := #[.null, .int 1, .int 0], vm := .none },
  { cls := 6, slots := #[.null, .int 2, .int 0], vm := .none },
  { cls := 6, slots := #[.null, .int 3, .int 0], vm := .none }]
def classes : Array Class := #[k0, k1, k2, k3, k4, k5, k6, k7, k8, k9, k10, k11, k12]
def interned : List (Array UInt16 × Addr) := []
def slotsUsed : Nat := 17
def theMethod : MethodId := ⟨1, 1⟩
def args0 : Array Value := #[.int 5, .int 7, .int 3]
def aboutOver (below : List Frame) : State where
  vm := { classes := classes, interned := interned.toArray }
  heap := heap
  slotsUsed := slotsUsed
  threads := #[{ frames := .invoking theMethod args0 :: below }]
def below0 : List Frame := [.native { method := ⟨0, 0⟩, args := #[] }]
def about1 : State := aboutOver below0
def p0 : Program := .bare "" "" ""
def e0 : Env := launch0.env 0 0 0
theorem w_frames : about1.frames = Frame.invoking theMethod args0 :: below0 := rfl
set_option maxRecDepth 65536 in
theorem w_args : argsFit about1.vm theMethod args0 = true := by decide +kernel
set_option maxRecDepth 65536 in
theorem w_heap : heapFits about1 = true := by decide +kernel
set_option maxRecDepth 65536 in
theorem w_runnable : about1.curStatus? = some .runnable := by decide +kernel
set_option maxRecDepth 65536 in
theorem w_alone : about1.alone = true := by decide +kernel
set_option maxRecDepth 65536 in
theorem w_named : about1.methodNamed? x = some theMethod := by decide +kernel
set_option maxRecDepth 65536 in
theorem w_hears : about1.hears theMethod below0 = true := by decide +kernel
set_option maxRecDepth 65536 in
theorem w_ripe : about1.ripe theMethod args0 below0 = true := by decide +kernel
theorem w_running : about1.status = .running := rfl
set_option maxRecDepth 65536 in
theorem w_room : about1.hasRoom e0.platform room_1 = true :=
  launch0.hasRoom_least _ room_1 (by decide +kernel) (by decide +kernel) (by decide +kernel) (by decide +kernel) (by decide +kernel) (by decide +kernel)
theorem allAtoms_all (ts : List Jvm.Cond) (a : Array Jvm.Value) (st : Jvm.State) : (allAtoms ts).before a st = ts.all (fun c => c.before a st) := by
  induction ts with
  | nil => rfl
  | cons c t ih =>
    show (Jvm.Cond.and c (allAtoms t)).before a st = _
    rw [Jvm.Cond.before_and, ih, List.all_cons]
def words1 : List Jvm.Cond := Jvm.Cond.code x code maxLocals ret :: tables_1
/-- a 'code' word, met by the world's own term for the bytes: nothing is compared byte by byte -/
theorem code_word {y : MethodName} {bytes : ByteArray} {mx : Nat} {rt : Option FieldType} {a : Array Value} {s : State} {m : MethodId} {meth : Method} {c : Code} (h1 : s.methodNamed? y = some m) (h2 : s.vm.method? m = some meth) (h3 : meth.code = some c) (h4 : c.code = bytes)
    (h5 : (c.maxLocals == mx && c.exceptionTable.isEmpty && decide (c.maxStack ≤ mostOperands) && decide (meth.sig.returnType = rt) && !meth.locks && decide (parseMethodDescriptor y.desc = some meth.sig)) = true) : (Jvm.Cond.code y bytes mx rt).before a s = true := by
  simp only [Bool.and_eq_true, beq_iff_eq, Bool.not_eq_true', decide_eq_true_eq] at h5
  obtain ⟨⟨⟨⟨⟨g1, g2⟩, g3⟩, g4⟩, g5⟩, g6⟩ := h5
  simp [Cond.before, Cond.holds, Cond.value, h1, h2, h3, h4, g1, g2, g3, g4, g5, g6]
def isCode : Jvm.Cond → Bool
  | .code _ _ _ _ => true
  | _ => false
theorem all_split {L : List Jvm.Cond} {P : Jvm.Cond → Bool} (h1 : L.all (fun c => isCode c || P c) = true) (h2 : ∀ c ∈ L.filter isCode, P c = true) : L.all P = true := by
  refine List.all_eq_true.mpr fun c hc => ?_
  have h := List.all_eq_true.mp h1 c hc
  rcases Bool.eq_false_or_eq_true (isCode c) with hi | hi
  · exact h2 c (List.mem_filter.mpr ⟨hc, hi⟩)
  · simpa [hi] using h
set_option maxRecDepth 65536 in
theorem w_c0 : (Jvm.Cond.code x code maxLocals ret).before args0 about1 = true := code_word (m := ⟨1, 1⟩) (meth := k1m1) (c := k1c1) (by decide +kernel) rfl rfl rfl (by decide +kernel)
set_option maxRecDepth 65536 in
theorem w_c1 : (Jvm.Cond.code ({ cls := "com/example/groveledger/groveledger/CsvPlace", name := "after", desc := "(I)Lcom/example/groveledger/groveledger/CsvPlace;" } : Jvm.MethodName) prog_2_method_4_code (3 : Nat) (Option.some (Jvm.ClassFile.FieldType.object "com/example/groveledger/groveledger/CsvPlace"))).before args0 about1 = true := code_word (m := ⟨6, 0⟩) (meth := k6m0) (c := k6c0) (by decide +kernel) rfl rfl rfl (by decide +kernel)
def codes1 : List Jvm.Cond := [Jvm.Cond.code x code maxLocals ret, Jvm.Cond.code ({ cls := "com/example/groveledger/groveledger/CsvPlace", name := "after", desc := "(I)Lcom/example/groveledger/groveledger/CsvPlace;" } : Jvm.MethodName) prog_2_method_4_code (3 : Nat) (Option.some (Jvm.ClassFile.FieldType.object "com/example/groveledger/groveledger/CsvPlace"))]
set_option maxRecDepth 65536 in
theorem codes_eq : words1.filter isCode = codes1 := rfl
theorem w_codes : ∀ c ∈ words1.filter isCode, c.before args0 about1 = true := by
  rw [codes_eq]
  intro c hc
  simp only [codes1, List.mem_cons, List.not_mem_nil, or_false] at hc
  rcases hc with rfl | rfl
  · exact w_c0
  · exact w_c1
set_option maxRecDepth 65536 in
theorem w_t1 : words1.all (fun c => isCode c || c.before args0 about1) = true := by decide +kernel
theorem w_tables : (allAtoms (Jvm.Cond.code x code maxLocals ret :: tables_1)).before args0 about1 = true := by
  rw [allAtoms_all]
  show words1.all (fun c => c.before args0 about1) = true
  refine all_split ?_ w_codes
  rw [w_t1]
set_option maxRecDepth 65536 in
theorem w_case : (Jvm.Cond.and given_1 narrow_1).before args0 about1 = true := by decide +kernel
theorem w_applies : (headSpec (Jvm.Cond.code x code maxLocals ret :: tables_1) room_1).applies x e0.platform about1 = true :=
  (Spec.applies_iff w_frames).mpr ⟨w_running, w_runnable, w_alone, w_named, w_hears, w_ripe, w_room, w_tables⟩
theorem atStart : AtStart classFile x code maxLocals ret World_1 tables_1 room_1 Calls_1 rest_1 Pre_1 launch0 p0 e0 about1 theMethod args0 below0 :=
  ⟨lists_1, trivial, launch0.admits_env _ _ _, launch0.least_env, fairChoices_fair.cas, fairChoices_fair.clock, w_frames, w_args, w_heap, w_applies, trivial, trivial, w_case⟩
end start1
theorem witness_1 : WitnessClaimed_1 := ⟨start1.p0, start1.e0, start1.about1, start1.theMethod, start1.args0, start1.below0, start1.atStart⟩
end Jvm.Pilot.@@N@@
