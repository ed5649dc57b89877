import JvmDerived
import JvmDerived.Pilot.@@N@@Statement
import JvmDerived.Pilot.@@N@@Code
set_option linter.unusedVariables false
set_option linter.unusedSimpArgs false
/- laws to paste: Road.backV, Road.eqW, Road.codOf (cut by pick.py; bodies as the Statement names them) -/
namespace Jvm.Pilot.@@N@@
namespace StrChars
open Jvm Sem ClassFile Op Lib Jvm.Stand Jvm.Free.XT Jvm.Free.ALB Jvm.Free.JM Jvm.Free
open Jvm.Lib.Cold (StaticIs)
/-- a char array whose places are chars -/
def Ch (a : Addr) (A : Cell) (U : State) : Prop := Arr .char a A U ∧ Typed .char A
theorem Ch.mv {a : Addr} {A : Cell} {U U' : State} (h : Ch a A U) (hal : U.vm.Alike U'.vm) (hh : U'.heap = U.heap) : Ch a A U' := ⟨h.1.mv hal hh, h.2⟩
theorem Ch.keep {a : Addr} {A : Cell} {U U' : State} (h : Ch a A U) (hal : U.vm.Alike U'.vm) (hk : U'.heap[a]? = some A) : Ch a A U' := ⟨h.1.keep hal hk, h.2⟩
/-- what place i of a char[]'s cell holds -/
def cv (A : Cell) (i : Nat) : Int32 := match A.slots[i]? with | some (.int x) => x | _ => 0
theorem Ch.get {a : Addr} {A : Cell} {U : State} (h : Ch a A U) {i : Nat} (hi : i < A.slots.size) : A.slots[i]? = some (.int (cv A i)) := by
  have e := Array.getElem?_eq_getElem hi
  have f := h.2 i _ e
  unfold cv; rw [e]
  generalize A.slots[i] = v at f
  cases v <;> simp [fits] at f ⊢
/-- the byte that i2b leaves of a char -/
def lo8 (x : Int32) : Int32 := x.toInt8.toInt32
theorem fits_lo8 (y : Int32) : fits .byte (.int (lo8 y)) = true := by
  have h1 := y.toInt8.le_toInt
  have h2 := y.toInt8.toInt_lt
  simp only [lo8, fits, Bool.and_eq_true, decide_eq_true_eq, Int32.le_iff_toInt_le, Int8.toInt_toInt32, show (-128 : Int32).toInt = -128 from by decide, show (127 : Int32).toInt = 127 from by decide]
  omega
/-- A' is A but that each place j of lo .. hi - 1 holds f j -/
def Laid (A A' : Cell) (lo hi : Nat) (f : Nat → Value) : Prop := A'.cls = A.cls ∧ A'.vm = A.vm ∧ A'.slots.size = A.slots.size ∧ ∀ i, A'.slots[i]? = if lo ≤ i ∧ i < hi then some (f i) else A.slots[i]?
theorem Laid.zero (A : Cell) (lo : Nat) (f : Nat → Value) : Laid A A lo (lo + 0) f := ⟨rfl, rfl, rfl, fun i => by rw [if_neg (by omega)]⟩
theorem Laid.step {A Ak : Cell} {lo k : Nat} {f : Nat → Value} {v : Value} (h : Laid A Ak lo k f) (hlo : lo ≤ k) (hk : k < Ak.slots.size) (hv : v = f k) : Laid A (Ak.setSlot k v) lo (k + 1) f := by
  refine ⟨h.1, h.2.1, by simpa [Cell.setSlot] using h.2.2.1, fun i => ?_⟩
  by_cases e : k = i
  · subst e; rw [Cell.slots_setSlot_self v hk, if_pos (by omega), hv]
  · rw [Cell.slots_setSlot_ne v e, h.2.2.2 i]
    by_cases q : lo ≤ i ∧ i < k
    · rw [if_pos q, if_pos (by omega)]
    · rw [if_neg q, if_neg (by omega)]
def U16 : String := "java/lang/StringUTF16"
namespace Cmp5
def yN : MethodName := ⟨"java/lang/StringUTF16", "compress", "([CI[BII)I"⟩
abbrev yB : ByteArray := jdk_52_method_21_code
theorem d0 : decode yB 0 = .ok (.iconst 0, 1) := by decide +kernel
theorem d1 : decode yB 1 = .ok (.istore 5, 2) := by decide +kernel
theorem d3 : decode yB 3 = .ok (.iload 5, 2) := by decide +kernel
theorem d5 : decode yB 5 = .ok (.iload 4, 2) := by decide +kernel
theorem d7 : decode yB 7 = .ok (.if_icmp (.ge) 37, 3) := by decide +kernel
theorem d10 : decode yB 10 = .ok (.aload_n 0, 1) := by decide +kernel
theorem d11 : decode yB 11 = .ok (.iload_n 1, 1) := by decide +kernel
theorem d12 : decode yB 12 = .ok (.caload, 1) := by decide +kernel
theorem d13 : decode yB 13 = .ok (.istore 6, 2) := by decide +kernel
theorem d15 : decode yB 15 = .ok (.iload 6, 2) := by decide +kernel
theorem d17 : decode yB 17 = .ok (.sipush 255, 3) := by decide +kernel
theorem d20 : decode yB 20 = .ok (.if_icmp (.le) 6, 3) := by decide +kernel
theorem d26 : decode yB 26 = .ok (.aload_n 2, 1) := by decide +kernel
theorem d27 : decode yB 27 = .ok (.iload_n 3, 1) := by decide +kernel
theorem d28 : decode yB 28 = .ok (.iload 6, 2) := by decide +kernel
theorem d30 : decode yB 30 = .ok (.i2b, 1) := by decide +kernel
theorem d31 : decode yB 31 = .ok (.bastore, 1) := by decide +kernel
theorem d32 : decode yB 32 = .ok (.iinc 1 1, 3) := by decide +kernel
theorem d35 : decode yB 35 = .ok (.iinc 3 1, 3) := by decide +kernel
theorem d38 : decode yB 38 = .ok (.iinc 5 1, 3) := by decide +kernel
theorem d41 : decode yB 41 = .ok (.goto (-38), 3) := by decide +kernel
theorem d44 : decode yB 44 = .ok (.iload 4, 2) := by decide +kernel
theorem d46 : decode yB 46 = .ok (.ireturn, 1) := by decide +kernel
def site : List Cond := []
def tab : Cond := tabOf yN yB 7 (some .int) site
def P (b : Addr) (A : Cell) (d : Addr) (B : Cell) (o q len : Nat) (args : Array Value) (s : State) : Prop := args = #[.ref b, .int (Int32.ofNat o), .ref d, .int (Int32.ofNat q), .int (Int32.ofNat len)] ∧ Ch b A s ∧ Arr .byte d B s ∧ b ≠ d ∧ o + len ≤ A.slots.size ∧ q + len ≤ B.slots.size ∧ ∀ i, i < len → ¬ 255 < cv A (o + i)
def E (b : Addr) (A : Cell) (d : Addr) (B : Cell) (o q len : Nat) (r : Option Value) (s u : State) : Prop := r = some (.int (Int32.ofNat len)) ∧ ∃ B', Put d B' s u ∧ Laid B B' q (q + len) (fun j => Value.int (lo8 (cv A (o + (j - q)))))
/-- no char of the range above 255: len; the places written hold each char's low byte -/
theorem law (l : Launch) (b : Addr) (A : Cell) (d : Addr) (B : Cell) (o q len : Nat) : Law l yN 5 5 0 0 yB 7 (some .int) site (P b A d B o q len) (E b A d B o q len) (copyLocs d q len) 0 0 := by
  refine Law.of_walk (plainFor_of_name (by decide +kernel)) (by decide +kernel) (by decide +kernel) (by decide) (fun _ _ h => by rw [h.1]; rfl) (fun _ U U' hal hh h => ⟨h.1, h.2.1.mv hal hh, h.2.2.1.mv hal hh, h.2.2.2⟩) (fun r U U' V V' h1 hal h2 h => ⟨h.1, h.2.elim fun B' q => ⟨B', q.1.mv h1 h2, q.2⟩⟩) ?_
  intro p e s m args below meth c s₁ X0 hexec hbytes hml hret hlk hnm hown hh0 W hP
  obtain ⟨rfl, hA, hB, hne, l1, l2, hp⟩ := hP
  have c1 : Steps p.tables e below (s₁.setTop (entryFrame m #[.ref b, .int (Int32.ofNat o), .ref d, .int (Int32.ofNat q), .int (Int32.ofNat len)] 7)) (s₁.setTop (mkF m 0 #[.val (.ref b), .val (.int (Int32.ofNat o)), .val (.ref d), .val (.int (Int32.ofNat q)), .val (.int (Int32.ofNat len)), .unset, .unset] [])) := entry rfl
  have hA0 := hA.1.mv X0.warmed.alike hh0
  have hB0 := hB.mv X0.warmed.alike hh0
  have a31 := hA.1.2.2.2
  have c2 : Steps p.tables e below (s₁.setTop (entryFrame m #[.ref b, .int (Int32.ofNat o), .ref d, .int (Int32.ofNat q), .int (Int32.ofNat len)] 7)) (s₁.setTop (mkF m 3 #[.val (.ref b), .val (.int (Int32.ofNat o)), .val (.ref d), .val (.int (Int32.ofNat q)), .val (.int (Int32.ofNat len)), .val (.int 0), .unset] [])) := c1.trans (by
    refine iconstV X0.here hexec rfl 0 (hb hbytes d0) (by decide) ?_
    refine XS.istore X0.here hexec rfl (hb hbytes d1) rfl rfl ?_
    exact Steps.refl _)
  have loop : ∀ (r i : Nat), i + r = len → ∀ (z : Slot), (z = .unset ∨ ∃ w, z = .val w ∧ w.category = 1) → ∀ (Tl : State) (Bk : Cell), Stand p l e { frames := 0, locals := 0, cells := 0, slots := 0 } s m #[.ref b, .int (Int32.ofNat o), .ref d, .int (Int32.ofNat q), .int (Int32.ofNat len)] below meth c Tl ([] ++ copyLocs d q i) 0 0 → Put d Bk s₁ Tl → Laid B Bk q (q + i) (fun j => Value.int (lo8 (cv A (o + (j - q))))) →
      Steps p.tables e below (s₁.setTop (entryFrame m #[.ref b, .int (Int32.ofNat o), .ref d, .int (Int32.ofNat q), .int (Int32.ofNat len)] 7)) (Tl.setTop (mkF m 3 #[.val (.ref b), .val (.int (Int32.ofNat (o + i))), .val (.ref d), .val (.int (Int32.ofNat (q + i))), .val (.int (Int32.ofNat len)), .val (.int (Int32.ofNat i)), z] [])) → ∃ (T' : State) (B' : Cell) (z' : Slot), Stand p l e { frames := 0, locals := 0, cells := 0, slots := 0 } s m #[.ref b, .int (Int32.ofNat o), .ref d, .int (Int32.ofNat q), .int (Int32.ofNat len)] below meth c T' ([] ++ copyLocs d q len) 0 0 ∧ Put d B' s₁ T' ∧ Laid B B' q (q + len) (fun j => Value.int (lo8 (cv A (o + (j - q))))) ∧
      Steps p.tables e below (s₁.setTop (entryFrame m #[.ref b, .int (Int32.ofNat o), .ref d, .int (Int32.ofNat q), .int (Int32.ofNat len)] 7)) (T'.setTop (mkF m 3 #[.val (.ref b), .val (.int (Int32.ofNat (o + len))), .val (.ref d), .val (.int (Int32.ofNat (q + len))), .val (.int (Int32.ofNat len)), .val (.int (Int32.ofNat len)), z'] [])) := by
    intro r
    induction r with
    | zero =>
      intro i hi z hz Tl Bk Xl pl fl cl
      have hil : i = len := by omega
      rw [hil] at Xl fl cl
      exact ⟨Tl, Bk, z, Xl, pl, fl, cl⟩
    | succ r ih =>
      intro i hi z hz Tl Bk Xl pl fl cl
      have all := X0.warmed.alike.symm.trans Xl.warmed.alike
      have hAl := hA0.keep all (pl.other hne hA0.1)
      have hBk := hB0.like all pl.1 fl.1 fl.2.1 fl.2.2.1
      have hlt : q + i < Bk.slots.size := by rw [fl.2.2.1]; omega
      have c3 : Steps p.tables e below (s₁.setTop (entryFrame m #[.ref b, .int (Int32.ofNat o), .ref d, .int (Int32.ofNat q), .int (Int32.ofNat len)] 7)) (Tl.setTop (mkF m 12 #[.val (.ref b), .val (.int (Int32.ofNat (o + i))), .val (.ref d), .val (.int (Int32.ofNat (q + i))), .val (.int (Int32.ofNat len)), .val (.int (Int32.ofNat i)), z] [.int (Int32.ofNat (o + i)), .ref b])) := cl.trans (by
        refine XS.iload Xl.here hexec rfl (hb hbytes d3) rfl ?_
        refine XS.iload Xl.here hexec rfl (hb hbytes d5) rfl ?_
        refine XS.icmpNo Xl.here hexec rfl (hb hbytes d7) rfl (ii_ge_f (lt32 (by omega) (by omega))) ?_
        refine XS.aloadN Xl.here hexec rfl (hb hbytes d10) rfl rfl ?_
        refine XS.iloadN Xl.here hexec rfl (hb hbytes d11) rfl ?_
        exact Steps.refl _)
      have c4 : Steps p.tables e below (s₁.setTop (entryFrame m #[.ref b, .int (Int32.ofNat o), .ref d, .int (Int32.ofNat q), .int (Int32.ofNat len)] 7)) (Tl.setTop (mkF m 13 #[.val (.ref b), .val (.int (Int32.ofNat (o + i))), .val (.ref d), .val (.int (Int32.ofNat (q + i))), .val (.int (Int32.ofNat len)), .val (.int (Int32.ofNat i)), z] [.int (cv A (o + i))])) := c3.trans (by
        refine Xl.aget hexec hAl rfl (hA.get (i := o + i) (by omega)) rfl rfl (hb hbytes d12) ?_
        exact Steps.refl _)
      have c5 : Steps p.tables e below (s₁.setTop (entryFrame m #[.ref b, .int (Int32.ofNat o), .ref d, .int (Int32.ofNat q), .int (Int32.ofNat len)] 7)) (Tl.setTop (mkF m 15 #[.val (.ref b), .val (.int (Int32.ofNat (o + i))), .val (.ref d), .val (.int (Int32.ofNat (q + i))), .val (.int (Int32.ofNat len)), .val (.int (Int32.ofNat i)), .val (.int (cv A (o + i)))] [])) := c4.trans (by
        refine XS.istoreS Xl.here hexec rfl (hb hbytes d13) rfl rfl hz ?_
        exact Steps.refl _)
      have c6 : Steps p.tables e below (s₁.setTop (entryFrame m #[.ref b, .int (Int32.ofNat o), .ref d, .int (Int32.ofNat q), .int (Int32.ofNat len)] 7)) (Tl.setTop (mkF m 31 #[.val (.ref b), .val (.int (Int32.ofNat (o + i))), .val (.ref d), .val (.int (Int32.ofNat (q + i))), .val (.int (Int32.ofNat len)), .val (.int (Int32.ofNat i)), .val (.int (cv A (o + i)))] [.int (lo8 (cv A (o + i))), .int (Int32.ofNat (q + i)), .ref d])) := c5.trans (by
        refine XS.iload Xl.here hexec rfl (hb hbytes d15) rfl ?_
        refine sipushV Xl.here hexec rfl 255 (hb hbytes d17) (by decide) ?_
        refine XS.icmpYes Xl.here hexec rfl (pc0 := 20) rfl (hb hbytes d20) rfl (ii_le_t (hp i (by omega))) (by decide) rfl ?_
        refine XS.aloadN Xl.here hexec rfl (hb hbytes d26) rfl rfl ?_
        refine XS.iloadN Xl.here hexec rfl (hb hbytes d27) rfl ?_
        refine XS.iload Xl.here hexec rfl (hb hbytes d28) rfl ?_
        refine i2b Xl.here hexec rfl (hb hbytes d30) rfl ?_
        exact Steps.refl _)
      obtain ⟨T7, X7, p7, st7⟩ := Xl.aput hexec hBk rfl hlt rfl (fits_lo8 (cv A (o + i))) (g := (mkF m 31 #[.val (.ref b), .val (.int (Int32.ofNat (o + i))), .val (.ref d), .val (.int (Int32.ofNat (q + i))), .val (.int (Int32.ofNat len)), .val (.int (Int32.ofNat i)), .val (.int (cv A (o + i)))] [.int (lo8 (cv A (o + i))), .int (Int32.ofNat (q + i)), .ref d])) rfl (rest := []) rfl (hb hbytes d31)
      have c8 : Steps p.tables e below (s₁.setTop (entryFrame m #[.ref b, .int (Int32.ofNat o), .ref d, .int (Int32.ofNat q), .int (Int32.ofNat len)] 7)) (T7.setTop (mkF m 32 #[.val (.ref b), .val (.int (Int32.ofNat (o + i))), .val (.ref d), .val (.int (Int32.ofNat (q + i))), .val (.int (Int32.ofNat len)), .val (.int (Int32.ofNat i)), .val (.int (cv A (o + i)))] [])) := c6.trans (st7 _ (Steps.refl _))
      have c9 : Steps p.tables e below (s₁.setTop (entryFrame m #[.ref b, .int (Int32.ofNat o), .ref d, .int (Int32.ofNat q), .int (Int32.ofNat len)] 7)) (T7.setTop (mkF m 3 #[.val (.ref b), .val (.int (Int32.ofNat (o + i) + 1)), .val (.ref d), .val (.int (Int32.ofNat (q + i) + 1)), .val (.int (Int32.ofNat len)), .val (.int (Int32.ofNat i + 1)), .val (.int (cv A (o + i)))] [])) := c8.trans (by
        refine iincV X7.here hexec rfl 1 (hb hbytes d32) (by decide) rfl rfl ?_
        refine iincV X7.here hexec rfl 1 (hb hbytes d35) (by decide) rfl rfl ?_
        refine iincV X7.here hexec rfl 1 (hb hbytes d38) (by decide) rfl rfl ?_
        refine XS.goto X7.here hexec rfl (pc0 := 41) rfl (hb hbytes d41) (by decide) rfl ?_
        exact Steps.refl _)
      have c10 : Steps p.tables e below (s₁.setTop (entryFrame m #[.ref b, .int (Int32.ofNat o), .ref d, .int (Int32.ofNat q), .int (Int32.ofNat len)] 7)) (T7.setTop (mkF m 3 #[.val (.ref b), .val (.int (Int32.ofNat (o + (i + 1)))), .val (.ref d), .val (.int (Int32.ofNat (q + (i + 1)))), .val (.int (Int32.ofNat len)), .val (.int (Int32.ofNat (i + 1))), .val (.int (cv A (o + i)))] [])) := by
        have := c9
        rw [succ32, succ32, succ32] at this
        exact this
      exact ih (i + 1) (by omega) _ (Or.inr ⟨_, rfl, rfl⟩) T7 _ (by rw [copyLocs_step, ← List.append_assoc]; exact X7) (pl.trans p7) (fl.step (by omega) hlt (by simp)) c10
  obtain ⟨T9, B9, z9, X9, p9, f9, g9⟩ := loop len 0 (by omega) .unset (Or.inl rfl) s₁ B (by simpa [copyLocs] using X0) ⟨hB0.1, fun _ _ => rfl, rfl⟩ (Laid.zero _ _ _) c2
  have c11 : Steps p.tables e below (s₁.setTop (entryFrame m #[.ref b, .int (Int32.ofNat o), .ref d, .int (Int32.ofNat q), .int (Int32.ofNat len)] 7)) (T9.setTop (mkF m 46 #[.val (.ref b), .val (.int (Int32.ofNat (o + len))), .val (.ref d), .val (.int (Int32.ofNat (q + len))), .val (.int (Int32.ofNat len)), .val (.int (Int32.ofNat len)), z9] [.int (Int32.ofNat len)])) := g9.trans (by
    refine XS.iload X9.here hexec rfl (hb hbytes d3) rfl ?_
    refine XS.iload X9.here hexec rfl (hb hbytes d5) rfl ?_
    refine XS.icmpYes X9.here hexec rfl (pc0 := 7) rfl (hb hbytes d7) rfl (ii_ge_t (nlt32 (by omega) (Nat.le_refl _))) (by decide) rfl ?_
    refine XS.iload X9.here hexec rfl (hb hbytes d44) rfl ?_
    exact Steps.refl _)
  exact ⟨T9, some (.int (Int32.ofNat len)), _, _, _, X9, by simp, rfl, rfl, (fun h => by cases h), ⟨rfl, B9, p9.from hh0, f9⟩, fun fs hl => c11.trans (X9.ireturnOut hexec hret rfl (Or.inl rfl) (hb hbytes d46) hl)⟩
end Cmp5
namespace Cmp3
def yN : MethodName := ⟨"java/lang/StringUTF16", "compress", "([CII)[B"⟩
abbrev yB : ByteArray := jdk_52_method_16_code
theorem d0 : decode yB 0 = .ok (.iload_n 2, 1) := by decide +kernel
theorem d1 : decode yB 1 = .ok (.newarray .byte, 2) := by decide +kernel
theorem d3 : decode yB 3 = .ok (.astore_n 3, 1) := by decide +kernel
theorem d4 : decode yB 4 = .ok (.aload_n 0, 1) := by decide +kernel
theorem d5 : decode yB 5 = .ok (.iload_n 1, 1) := by decide +kernel
theorem d6 : decode yB 6 = .ok (.aload_n 3, 1) := by decide +kernel
theorem d7 : decode yB 7 = .ok (.iconst 0, 1) := by decide +kernel
theorem d8 : decode yB 8 = .ok (.iload_n 2, 1) := by decide +kernel
theorem d9 : decode yB 9 = .ok (.invokestatic 115, 3) := by decide +kernel
theorem d12 : decode yB 12 = .ok (.istore 4, 2) := by decide +kernel
theorem d14 : decode yB 14 = .ok (.iload 4, 2) := by decide +kernel
theorem d16 : decode yB 16 = .ok (.iload_n 2, 1) := by decide +kernel
theorem d17 : decode yB 17 = .ok (.if_icmp (.eq) 40, 3) := by decide +kernel
theorem d57 : decode yB 57 = .ok (.aload_n 3, 1) := by decide +kernel
theorem d58 : decode yB 58 = .ok (.areturn, 1) := by decide +kernel
def site : List Cond := [.arrayClass .byte, Cmp5.tab] ++ staticW U16 115 Cmp5.yN
def tab : Cond := tabOf yN yB 6 (some (.array .byte)) site
def P (b : Addr) (A : Cell) (o len : Nat) (args : Array Value) (s : State) : Prop := args = #[.ref b, .int (Int32.ofNat o), .int (Int32.ofNat len)] ∧ Ch b A s ∧ o + len ≤ A.slots.size ∧ len ≤ 536870912 ∧ ∀ i, i < len → ¬ 255 < cv A (o + i)
def E (b : Addr) (A : Cell) (o len : Nat) (r : Option Value) (s u : State) : Prop := NewArr .byte "[B" len (fun j => .int (lo8 (cv A (o + j)))) r s u ∧ u.heap.size = s.heap.size + 1
/-- no char of the range above 255: a new byte[] of their low bytes -/
theorem law (l : Launch) (b : Addr) (A : Cell) (o len : Nat) : Law l yN 3 3 1 18 yB 6 (some (.array .byte)) site (P b A o len) (E b A o len) [] 1 len := by
  refine Law.of_walk (plainFor_of_name (by decide +kernel)) (by decide +kernel) (by decide +kernel) (by decide) (fun _ _ h => by rw [h.1]; rfl) (fun _ U U' hal hh h => ⟨h.1, h.2.1.mv hal hh, h.2.2⟩) (fun r U U' V V' h1 hal h2 h => ⟨NewArr.mv r U U' V V' h1 hal h2 h.1, by rw [h1, h2]; exact h.2⟩) ?_
  intro p e s m args below meth c s₁ X0 hexec hbytes hml hret hlk hnm hown hh0 W hP
  obtain ⟨rfl, hA, l1, l2, hp⟩ := hP
  have a31 := hA.1.2.2.2
  have c1 : Steps p.tables e below (s₁.setTop (entryFrame m #[.ref b, .int (Int32.ofNat o), .int (Int32.ofNat len)] 6)) (s₁.setTop (mkF m 0 #[.val (.ref b), .val (.int (Int32.ofNat o)), .val (.int (Int32.ofNat len)), .unset, .unset, .unset] [])) := entry rfl
  have c2 : Steps p.tables e below (s₁.setTop (entryFrame m #[.ref b, .int (Int32.ofNat o), .int (Int32.ofNat len)] 6)) (s₁.setTop (mkF m 1 #[.val (.ref b), .val (.int (Int32.ofNat o)), .val (.int (Int32.ofNat len)), .unset, .unset, .unset] [.int (Int32.ofNat len)])) := c1.trans (by
    refine XS.iloadN X0.here hexec rfl (hb hbytes d0) rfl ?_
    exact Steps.refl _)
  obtain ⟨T3, B3, X3, ba3, bs3, bv3, bh3, bf3, st3⟩ := X0.anew hexec (atype := .byte) (wk W (.arrayClass .byte)) rfl (by show len * 1 ≤ _; omega) (by omega) (g := (mkF m 1 #[.val (.ref b), .val (.int (Int32.ofNat o)), .val (.int (Int32.ofNat len)), .unset, .unset, .unset] [.int (Int32.ofNat len)])) rfl (hb hbytes d1) (rest := []) rfl (Nat.le_refl _) (by show 0 + len ≤ len; omega)
  rw [hh0] at ba3 st3
  have kp3 : XT.Kept s T3 := (XT.Kept.of_eq hh0).push bh3
  have hA3 := hA.keep X3.warmed.alike (kp3 _ _ hA.1.1)
  have hne : b ≠ s.heap.size := hA.1.ne
  have c4 : Steps p.tables e below (s₁.setTop (entryFrame m #[.ref b, .int (Int32.ofNat o), .int (Int32.ofNat len)] 6)) (T3.setTop (mkF m 3 #[.val (.ref b), .val (.int (Int32.ofNat o)), .val (.int (Int32.ofNat len)), .unset, .unset, .unset] [.ref s.heap.size])) := c2.trans (st3 _ (Steps.refl _))
  have c5 : Steps p.tables e below (s₁.setTop (entryFrame m #[.ref b, .int (Int32.ofNat o), .int (Int32.ofNat len)] 6)) (T3.setTop (mkF m 9 #[.val (.ref b), .val (.int (Int32.ofNat o)), .val (.int (Int32.ofNat len)), .val (.ref s.heap.size), .unset, .unset] [.int (Int32.ofNat len), .int 0, .ref s.heap.size, .int (Int32.ofNat o), .ref b])) := c4.trans (by
    refine XS.astoreN X3.here hexec rfl (hb hbytes d3) rfl rfl rfl ?_
    refine XS.aloadN X3.here hexec rfl (hb hbytes d4) rfl rfl ?_
    refine XS.iloadN X3.here hexec rfl (hb hbytes d5) rfl ?_
    refine XS.aloadN X3.here hexec rfl (hb hbytes d6) rfl rfl ?_
    refine iconstV X3.here hexec rfl 0 (hb hbytes d7) (by decide) ?_
    refine XS.iloadN X3.here hexec rfl (hb hbytes d8) rfl ?_
    exact Steps.refl _)
  obtain ⟨v6, T6, X6, E6, g6⟩ := X3.callS hexec (Cmp5.law l b A s.heap.size B3 o 0 len) hown (wks W (staticW U16 115 Cmp5.yN)) (wk W Cmp5.tab) (W := 0) (Nat.le_of_ble_eq_true rfl) (Nat.le_of_ble_eq_true rfl) (Nat.le_refl _) (by show 0 + len + 0 ≤ len; omega) (g := (mkF m 9 #[.val (.ref b), .val (.int (Int32.ofNat o)), .val (.int (Int32.ofNat len)), .val (.ref s.heap.size), .unset, .unset] [.int (Int32.ofNat len), .int (Int32.ofNat 0), .ref s.heap.size, .int (Int32.ofNat o), .ref b])) rfl (by rw [hml]; rfl) c5 (argsL := [.ref b, .int (Int32.ofNat o), .ref s.heap.size, .int (Int32.ofNat 0), .int (Int32.ofNat len)]) (rest := []) rfl rfl (by show 2 * 0 + 0 ≤ _; decide) (hb hbytes d9) (⟨rfl, hA3, ba3, hne, l1, by rw [bs3]; simp, hp⟩)
  obtain ⟨rfl, B6, p6, f6⟩ := E6
  have c7 : Steps p.tables e below (s₁.setTop (entryFrame m #[.ref b, .int (Int32.ofNat o), .int (Int32.ofNat len)] 6)) (T6.setTop (mkF m 12 #[.val (.ref b), .val (.int (Int32.ofNat o)), .val (.int (Int32.ofNat len)), .val (.ref s.heap.size), .unset, .unset] [.int (Int32.ofNat len)])) := g6
  have c8 : Steps p.tables e below (s₁.setTop (entryFrame m #[.ref b, .int (Int32.ofNat o), .int (Int32.ofNat len)] 6)) (T6.setTop (mkF m 58 #[.val (.ref b), .val (.int (Int32.ofNat o)), .val (.int (Int32.ofNat len)), .val (.ref s.heap.size), .val (.int (Int32.ofNat len)), .unset] [.ref s.heap.size])) := c7.trans (by
    refine XS.istore X6.here hexec rfl (hb hbytes d12) rfl rfl ?_
    refine XS.iload X6.here hexec rfl (hb hbytes d14) rfl ?_
    refine XS.iloadN X6.here hexec rfl (hb hbytes d16) rfl ?_
    refine XS.icmpYes X6.here hexec rfl (pc0 := 17) rfl (hb hbytes d17) rfl (ii_eq_t rfl) (by decide) rfl ?_
    refine XS.aloadN X6.here hexec rfl (hb hbytes d57) rfl rfl ?_
    exact Steps.refl _)
  have X8 := X6.wide (L' := []) (cells' := 1) (slots' := len) (fun x hx hlt => by
    simp only [List.nil_append, copyLocs, List.mem_map, List.mem_range] at hx
    obtain ⟨i, -, rfl⟩ := hx
    exact absurd hlt (Nat.lt_irrefl _)) (Nat.le_refl _) (by omega)
  exact ⟨T6, some (.ref s.heap.size), _, _, _, X8, rfl, rfl, rfl, (fun h => by cases h), ⟨⟨rfl, B6, ba3.like (X3.warmed.alike.symm.trans X6.warmed.alike) p6.1 f6.1 f6.2.1 f6.2.2.1, f6.2.1.trans bv3, by rw [X6.warmed.alike.findClass, f6.1]; exact bf3, by rw [f6.2.2.1, bs3]; simp, fun j hj => by rw [f6.2.2.2 j, if_pos (by omega)]; rfl, kp3.put p6 (Nat.le_refl _)⟩, by rw [p6.2.2, bh3, hh0]; simp⟩, fun fs hl => c8.trans (X8.areturnOut hexec rfl hret rfl (hb hbytes d58) hl)⟩
end Cmp3
namespace CodL
def yN : MethodName := ⟨"java/lang/StringUTF16", "coderFromArrayLen", "([BI)B"⟩
abbrev yB : ByteArray := jdk_52_method_15_code
theorem d0 : decode yB 0 = .ok (.iload_n 1, 1) := by decide +kernel
theorem d1 : decode yB 1 = .ok (.aload_n 0, 1) := by decide +kernel
theorem d2 : decode yB 2 = .ok (.arraylength, 1) := by decide +kernel
theorem d3 : decode yB 3 = .ok (.isub, 1) := by decide +kernel
theorem d4 : decode yB 4 = .ok (.bipush 31, 2) := by decide +kernel
theorem d6 : decode yB 6 = .ok (.iushr, 1) := by decide +kernel
theorem d7 : decode yB 7 = .ok (.i2b, 1) := by decide +kernel
theorem d8 : decode yB 8 = .ok (.ireturn, 1) := by decide +kernel
def site : List Cond := []
def tab : Cond := tabOf yN yB 2 (some .byte) site
def P (d : Addr) (B : Cell) (args : Array Value) (s : State) : Prop := args = #[.ref d, .int (Int32.ofNat B.slots.size)] ∧ Arr .byte d B s
def E (r : Option Value) (s u : State) : Prop := XT.PureE (some (.int 0)) r s u
/-- an array as long as the number of chars: LATIN1 -/
theorem law (l : Launch) (d : Addr) (B : Cell) : Law l yN 2 2 0 0 yB 2 (some .byte) site (P d B) E [] 0 0 := by
  refine Law.of_walk (plainFor_of_name (by decide +kernel)) (by decide +kernel) (by decide +kernel) (by decide) (fun _ _ h => by rw [h.1]; rfl) (fun _ U U' hal hh h => ⟨h.1, h.2.mv hal hh⟩) (fun r U U' V V' h1 hal h2 h => XT.PureE.mv r U U' V V' h1 hal h2 h) ?_
  intro p e s m args below meth c s₁ X0 hexec hbytes hml hret hlk hnm hown hh0 W hP
  obtain ⟨rfl, hB⟩ := hP
  have hB0 := hB.mv X0.warmed.alike hh0
  have c1 : Steps p.tables e below (s₁.setTop (entryFrame m #[.ref d, .int (Int32.ofNat B.slots.size)] 2)) (s₁.setTop (mkF m 0 #[.val (.ref d), .val (.int (Int32.ofNat B.slots.size))] [])) := entry rfl
  have c2 : Steps p.tables e below (s₁.setTop (entryFrame m #[.ref d, .int (Int32.ofNat B.slots.size)] 2)) (s₁.setTop (mkF m 2 #[.val (.ref d), .val (.int (Int32.ofNat B.slots.size))] [.ref d, .int (Int32.ofNat B.slots.size)])) := c1.trans (by
    refine XS.iloadN X0.here hexec rfl (hb hbytes d0) rfl ?_
    refine XS.aloadN X0.here hexec rfl (hb hbytes d1) rfl rfl ?_
    exact Steps.refl _)
  have c3 : Steps p.tables e below (s₁.setTop (entryFrame m #[.ref d, .int (Int32.ofNat B.slots.size)] 2)) (s₁.setTop (mkF m 8 #[.val (.ref d), .val (.int (Int32.ofNat B.slots.size))] [.int (lo8 (ushr (Int32.ofNat B.slots.size - Int32.ofNat B.slots.size) 31))])) := c2.trans (by
    refine X0.alen hexec hB0 rfl rfl (hb hbytes d2) ?_
    refine XS.isub X0.here hexec rfl (hb hbytes d3) rfl ?_
    refine bipushV X0.here hexec rfl 31 (hb hbytes d4) (by decide) ?_
    refine iushr X0.here hexec rfl (hb hbytes d6) rfl ?_
    refine i2b X0.here hexec rfl (hb hbytes d7) rfl ?_
    exact Steps.refl _)
  have e0 : lo8 (ushr (Int32.ofNat B.slots.size - Int32.ofNat B.slots.size) 31) = 0 := by rw [Int32.sub_self]; decide
  rw [e0] at c3
  exact ⟨s₁, some (.int 0), _, _, _, X0, rfl, rfl, rfl, (fun h => by cases h), ⟨rfl, hh0⟩, fun fs hl => c3.trans (X0.ireturnOut hexec hret rfl (Or.inr (Or.inr (Or.inl rfl))) (hb hbytes d8) hl)⟩
end CodL
/-- the String at a is Latin-1 over a new byte[] (the heap's one new cell): the low bytes of the len chars of A from o on; every cell but a is kept -/
def Got (a : Addr) (D : Cell) (fV fC : Field) (A : Cell) (o len : Nat) (r : Option Value) (s u : State) : Prop := r = none ∧ ∃ D' V : Cell, Blank "java/lang/String" a D' u ∧ Same D D' [fV.slot, fC.slot] ∧ D'.slots[fV.slot]? = some (.ref s.heap.size) ∧ D'.slots[fC.slot]? = some (.int 0) ∧ Arr .byte s.heap.size V u ∧ V.vm = .none ∧ u.vm.findClass "[B" = some V.cls ∧ V.slots.size = len ∧ (∀ j, j < len → V.slots[j]? = some (.int (lo8 (cv A (o + j))))) ∧ (∀ (y : Addr) (c : Cell), y ≠ a → s.heap[y]? = some c → u.heap[y]? = some c) ∧ u.heap.size = s.heap.size + 1
theorem Got.mv {a : Addr} {D A : Cell} {fV fC : Field} {o len : Nat} : ∀ r (U U' V V' : State), U'.heap = U.heap → V.vm.Alike V'.vm → V'.heap = V.heap → Got a D fV fC A o len r U V → Got a D fV fC A o len r U' V' :=
  fun r U U' V V' h1 hal h2 ⟨e0, D', X, a1, a2, a3, a4, a5, a6, a7, a8, a9, a10, a11⟩ => ⟨e0, D', X, a1.mv hal h2, a2, by rw [h1]; exact a3, a4, by rw [h1]; exact a5.mv hal h2, a6, by rw [hal.findClass]; exact a7, a8, a9, by rw [h1, h2]; exact a10, by rw [h1, h2]; exact a11⟩
namespace New4
def yN : MethodName := ⟨"java/lang/String", "<init>", "([CIILjava/lang/Void;)V"⟩
abbrev yB : ByteArray := jdk_42_method_149_code
theorem d0 : decode yB 0 = .ok (.aload_n 0, 1) := by decide +kernel
theorem d1 : decode yB 1 = .ok (.invokespecial 1, 3) := by decide +kernel
theorem d4 : decode yB 4 = .ok (.iload_n 3, 1) := by decide +kernel
theorem d5 : decode yB 5 = .ok (.ifCond (.ne) 22, 3) := by decide +kernel
theorem d27 : decode yB 27 = .ok (.getstatic 38, 3) := by decide +kernel
theorem d30 : decode yB 30 = .ok (.ifCond (.eq) 28, 3) := by decide +kernel
theorem d33 : decode yB 33 = .ok (.aload_n 1, 1) := by decide +kernel
theorem d34 : decode yB 34 = .ok (.iload_n 2, 1) := by decide +kernel
theorem d35 : decode yB 35 = .ok (.iload_n 3, 1) := by decide +kernel
theorem d36 : decode yB 36 = .ok (.invokestatic 177, 3) := by decide +kernel
theorem d39 : decode yB 39 = .ok (.astore 5, 2) := by decide +kernel
theorem d41 : decode yB 41 = .ok (.aload_n 0, 1) := by decide +kernel
theorem d42 : decode yB 42 = .ok (.aload 5, 2) := by decide +kernel
theorem d44 : decode yB 44 = .ok (.iload_n 3, 1) := by decide +kernel
theorem d45 : decode yB 45 = .ok (.invokestatic 47, 3) := by decide +kernel
theorem d48 : decode yB 48 = .ok (.putfield 15, 3) := by decide +kernel
theorem d51 : decode yB 51 = .ok (.aload_n 0, 1) := by decide +kernel
theorem d52 : decode yB 52 = .ok (.aload 5, 2) := by decide +kernel
theorem d54 : decode yB 54 = .ok (.putfield 9, 3) := by decide +kernel
theorem d57 : decode yB 57 = .ok (.return_, 1) := by decide +kernel
def site : List Cond := [.fieldLink "java/lang/String" 38 "java/lang/String" "COMPACT_STRINGS" "Z", Cmp3.tab, CodL.tab, .laysFinal "java/lang/String" "java/lang/String" "value" "[B", .fieldLink "java/lang/String" 9 "java/lang/String" "value" "[B", .laysFinal "java/lang/String" "java/lang/String" "coder" "B", .fieldLink "java/lang/String" 15 "java/lang/String" "coder" "B"] ++ objW "java/lang/String" 1 ++ staticW "java/lang/String" 177 Cmp3.yN ++ staticW "java/lang/String" 47 CodL.yN
def tab : Cond := tabOf yN yB 6 none site
def P (a : Addr) (D : Cell) (fV fC : Field) (b : Addr) (A : Cell) (z : Int32) (o len : Nat) (args : Array Value) (s : State) : Prop := args = #[.ref a, .ref b, .int (Int32.ofNat o), .int (Int32.ofNat len), .null] ∧ Blank "java/lang/String" a D s ∧ Found "java/lang/String" "value" "[B" fV s ∧ Found "java/lang/String" "coder" "B" fC s ∧ Ch b A s ∧ StaticIs s "java/lang/String" "COMPACT_STRINGS" "Z" (.int z) ∧ ¬ z = 0 ∧ 0 < len ∧ o + len ≤ A.slots.size ∧ len ≤ 536870912 ∧ ∀ i, i < len → ¬ 255 < cv A (o + i)
def E (a : Addr) (D : Cell) (fV fC : Field) (A : Cell) (o len : Nat) (r : Option Value) (s u : State) : Prop := Got a D fV fC A o len r s u
/-- len > 0, no char of the range above 255: a Latin-1 String of their low bytes -/
theorem law (l : Launch) (a : Addr) (D : Cell) (fV fC : Field) (b : Addr) (A : Cell) (z : Int32) (o len : Nat) : Law l yN 5 4 2 35 yB 6 none site (P a D fV fC b A z o len) (E a D fV fC A o len) [⟨a, fC.slot⟩, ⟨a, fV.slot⟩] 1 len := by
  refine Law.of_walk (plainFor_of_name (by decide +kernel)) (by decide +kernel) (by decide +kernel) (by decide) (fun _ _ h => by rw [h.1]; rfl) (fun _ U U' hal hh h => ⟨h.1, h.2.1.mv hal hh, h.2.2.1.al hal, h.2.2.2.1.al hal, h.2.2.2.2.1.mv hal hh, h.2.2.2.2.2.1.there hal hh, h.2.2.2.2.2.2⟩) (fun r U U' V V' h1 hal h2 h => Got.mv r U U' V V' h1 hal h2 h) ?_
  intro p e s m args below meth c s₁ X0 hexec hbytes hml hret hlk hnm hown hh0 W hP
  obtain ⟨rfl, hB, f1, f2, hA, s1, hz, l0, l1, l2, hp⟩ := hP
  have a31 := hA.1.2.2.2
  have c1 : Steps p.tables e below (s₁.setTop (entryFrame m #[.ref a, .ref b, .int (Int32.ofNat o), .int (Int32.ofNat len), .null] 6)) (s₁.setTop (mkF m 0 #[.val (.ref a), .val (.ref b), .val (.int (Int32.ofNat o)), .val (.int (Int32.ofNat len)), .val .null, .unset] [])) := entry rfl
  have c2 : Steps p.tables e below (s₁.setTop (entryFrame m #[.ref a, .ref b, .int (Int32.ofNat o), .int (Int32.ofNat len), .null] 6)) (s₁.setTop (mkF m 1 #[.val (.ref a), .val (.ref b), .val (.int (Int32.ofNat o)), .val (.int (Int32.ofNat len)), .val .null, .unset] [.ref a])) := c1.trans (by
    refine XS.aloadN X0.here hexec rfl (hb hbytes d0) rfl rfl ?_
    exact Steps.refl _)
  obtain ⟨T3, X3, q3, st3⟩ := X0.oinit hexec hown (wks W (objW "java/lang/String" 1)) (g := (mkF m 1 #[.val (.ref a), .val (.ref b), .val (.int (Int32.ofNat o)), .val (.int (Int32.ofNat len)), .val .null, .unset] [.ref a])) rfl (by rw [hml]; rfl) (rest := []) rfl (hb hbytes d1) (W := 0) (by show 2 * 0 + 0 ≤ _; decide) (Nat.le_of_ble_eq_true rfl) (Nat.le_of_ble_eq_true rfl)
  have hh3 := q3.trans hh0
  have c4 : Steps p.tables e below (s₁.setTop (entryFrame m #[.ref a, .ref b, .int (Int32.ofNat o), .int (Int32.ofNat len), .null] 6)) (T3.setTop (mkF m 27 #[.val (.ref a), .val (.ref b), .val (.int (Int32.ofNat o)), .val (.int (Int32.ofNat len)), .val .null, .unset] [])) := (c2.trans (st3 _ (Steps.refl _))).trans (by
    refine XS.iloadN X3.here hexec rfl (hb hbytes d4) rfl ?_
    refine XS.ifYes X3.here hexec rfl (pc0 := 5) rfl (hb hbytes d5) rfl (i0_ne_t (nz32 (by omega) l0)) (by decide) rfl ?_
    exact Steps.refl _)
  obtain ⟨T5, X5, q5, st5⟩ := X3.sget hexec hown (wk W (.fieldLink "java/lang/String" 38 "java/lang/String" "COMPACT_STRINGS" "Z")) s1 (fun _ _ h => by rw [hh3]; exact h) (g := (mkF m 27 #[.val (.ref a), .val (.ref b), .val (.int (Int32.ofNat o)), .val (.int (Int32.ofNat len)), .val .null, .unset] [])) rfl (hb hbytes d27)
  have hh5 := q5.trans hh3
  have c6 : Steps p.tables e below (s₁.setTop (entryFrame m #[.ref a, .ref b, .int (Int32.ofNat o), .int (Int32.ofNat len), .null] 6)) (T5.setTop (mkF m 30 #[.val (.ref a), .val (.ref b), .val (.int (Int32.ofNat o)), .val (.int (Int32.ofNat len)), .val .null, .unset] [.int z])) := c4.trans (st5 _ (Steps.refl _))
  have c7 : Steps p.tables e below (s₁.setTop (entryFrame m #[.ref a, .ref b, .int (Int32.ofNat o), .int (Int32.ofNat len), .null] 6)) (T5.setTop (mkF m 36 #[.val (.ref a), .val (.ref b), .val (.int (Int32.ofNat o)), .val (.int (Int32.ofNat len)), .val .null, .unset] [.int (Int32.ofNat len), .int (Int32.ofNat o), .ref b])) := c6.trans (by
    refine XS.ifNo X5.here hexec rfl (hb hbytes d30) rfl (i0_eq_f hz) ?_
    refine XS.aloadN X5.here hexec rfl (hb hbytes d33) rfl rfl ?_
    refine XS.iloadN X5.here hexec rfl (hb hbytes d34) rfl ?_
    refine XS.iloadN X5.here hexec rfl (hb hbytes d35) rfl ?_
    exact Steps.refl _)
  obtain ⟨v8, T8, X8, E8, g8⟩ := X5.callS hexec (Cmp3.law l b A o len) hown (wks W (staticW "java/lang/String" 177 Cmp3.yN)) (wk W Cmp3.tab) (W := 0) (Nat.le_of_ble_eq_true rfl) (Nat.le_of_ble_eq_true rfl) (Nat.le_refl _) (by show 0 + len ≤ len; omega) (g := (mkF m 36 #[.val (.ref a), .val (.ref b), .val (.int (Int32.ofNat o)), .val (.int (Int32.ofNat len)), .val .null, .unset] [.int (Int32.ofNat len), .int (Int32.ofNat o), .ref b])) rfl (by rw [hml]; rfl) c7 (argsL := [.ref b, .int (Int32.ofNat o), .int (Int32.ofNat len)]) (rest := []) rfl rfl (by show 2 * 0 + 0 ≤ _; decide) (hb hbytes d36) (⟨rfl, hA.mv X5.warmed.alike hh5, l1, l2, hp⟩)
  obtain ⟨e8, z8⟩ := E8
  obtain ⟨rfl, N, n1, n2, n3, n4, n5, n6⟩ := NewArr.mv _ T5 s _ _ hh5.symm (Vm.Alike.refl _) rfl e8
  rw [hh5] at z8
  have hB1 := hB.keep X8.warmed.alike (n6 _ _ hB.1)
  have hne : s.heap.size ≠ a := (Nat.ne_of_lt (Array.getElem?_eq_some_iff.mp hB.1).1).symm
  have c9 : Steps p.tables e below (s₁.setTop (entryFrame m #[.ref a, .ref b, .int (Int32.ofNat o), .int (Int32.ofNat len), .null] 6)) (T8.setTop (mkF m 39 #[.val (.ref a), .val (.ref b), .val (.int (Int32.ofNat o)), .val (.int (Int32.ofNat len)), .val .null, .unset] [.ref s.heap.size])) := g8
  have c10 : Steps p.tables e below (s₁.setTop (entryFrame m #[.ref a, .ref b, .int (Int32.ofNat o), .int (Int32.ofNat len), .null] 6)) (T8.setTop (mkF m 45 #[.val (.ref a), .val (.ref b), .val (.int (Int32.ofNat o)), .val (.int (Int32.ofNat len)), .val .null, .val (.ref s.heap.size)] [.int (Int32.ofNat N.slots.size), .ref s.heap.size, .ref a])) := by
    have hc : Steps p.tables e below (s₁.setTop (entryFrame m #[.ref a, .ref b, .int (Int32.ofNat o), .int (Int32.ofNat len), .null] 6)) (T8.setTop (mkF m 45 #[.val (.ref a), .val (.ref b), .val (.int (Int32.ofNat o)), .val (.int (Int32.ofNat len)), .val .null, .val (.ref s.heap.size)] [.int (Int32.ofNat len), .ref s.heap.size, .ref a])) := c9.trans (by
      refine XS.astore X8.here hexec rfl (hb hbytes d39) rfl rfl rfl ?_
      refine XS.aloadN X8.here hexec rfl (hb hbytes d41) rfl rfl ?_
      refine XS.aload X8.here hexec rfl (hb hbytes d42) rfl rfl ?_
      refine XS.iloadN X8.here hexec rfl (hb hbytes d44) rfl ?_
      exact Steps.refl _)
    rw [n4]; exact hc
  obtain ⟨v11, T11, X11, E11, g11⟩ := X8.callS hexec (CodL.law l s.heap.size N) hown (wks W (staticW "java/lang/String" 47 CodL.yN)) (wk W CodL.tab) (W := 1) (Nat.le_of_ble_eq_true rfl) (Nat.le_of_ble_eq_true rfl) (Nat.le_refl _) (by show 0 + len + 0 ≤ len; omega) (g := (mkF m 45 #[.val (.ref a), .val (.ref b), .val (.int (Int32.ofNat o)), .val (.int (Int32.ofNat len)), .val .null, .val (.ref s.heap.size)] [.int (Int32.ofNat N.slots.size), .ref s.heap.size, .ref a])) rfl (by rw [hml]; rfl) c10 (argsL := [.ref s.heap.size, .int (Int32.ofNat N.slots.size)]) (rest := [.ref a]) rfl rfl (by show 2 * 0 + (1 + 0) ≤ _; decide) (hb hbytes d45) (⟨rfl, n1⟩)
  obtain ⟨rfl, q11⟩ := E11
  have hB11 := hB1.mv (X8.warmed.alike.symm.trans X11.warmed.alike) q11
  have c12 : Steps p.tables e below (s₁.setTop (entryFrame m #[.ref a, .ref b, .int (Int32.ofNat o), .int (Int32.ofNat len), .null] 6)) (T11.setTop (mkF m 48 #[.val (.ref a), .val (.ref b), .val (.int (Int32.ofNat o)), .val (.int (Int32.ofNat len)), .val .null, .val (.ref s.heap.size)] [.int 0, .ref a])) := g11
  obtain ⟨T13, X13, p13, bl13, sl13, st13⟩ := X11.finit hexec hown (wk W (.fieldLink "java/lang/String" 15 "java/lang/String" "coder" "B")) (Or.inr ⟨_, (wk W (.laysFinal "java/lang/String" "java/lang/String" "coder" "B"))⟩) (Or.inl ⟨rfl, hnm⟩) f2 (Or.inl rfl) hB11 (t := .byte) (by decide +kernel) rfl (g := (mkF m 48 #[.val (.ref a), .val (.ref b), .val (.int (Int32.ofNat o)), .val (.int (Int32.ofNat len)), .val .null, .val (.ref s.heap.size)] [.int 0, .ref a])) rfl (rest := []) rfl (hb hbytes d48)
  have c14 : Steps p.tables e below (s₁.setTop (entryFrame m #[.ref a, .ref b, .int (Int32.ofNat o), .int (Int32.ofNat len), .null] 6)) (T13.setTop (mkF m 54 #[.val (.ref a), .val (.ref b), .val (.int (Int32.ofNat o)), .val (.int (Int32.ofNat len)), .val .null, .val (.ref s.heap.size)] [.ref s.heap.size, .ref a])) := (c12.trans (st13 _ (Steps.refl _))).trans (by
    refine XS.aloadN X13.here hexec rfl (hb hbytes d51) rfl rfl ?_
    refine XS.aload X13.here hexec rfl (hb hbytes d52) rfl rfl ?_
    exact Steps.refl _)
  obtain ⟨T15, X15, p15, bl15, sl15, st15⟩ := X13.finit hexec hown (wk W (.fieldLink "java/lang/String" 9 "java/lang/String" "value" "[B")) (Or.inr ⟨_, (wk W (.laysFinal "java/lang/String" "java/lang/String" "value" "[B"))⟩) (Or.inl ⟨rfl, hnm⟩) f1 (Or.inl rfl) bl13 (t := (.array .byte)) (by decide +kernel) rfl (g := (mkF m 54 #[.val (.ref a), .val (.ref b), .val (.int (Int32.ofNat o)), .val (.int (Int32.ofNat len)), .val .null, .val (.ref s.heap.size)] [.ref s.heap.size, .ref a])) rfl (rest := []) rfl (hb hbytes d54)
  have c16 : Steps p.tables e below (s₁.setTop (entryFrame m #[.ref a, .ref b, .int (Int32.ofNat o), .int (Int32.ofNat len), .null] 6)) (T15.setTop (mkF m 57 #[.val (.ref a), .val (.ref b), .val (.int (Int32.ofNat o)), .val (.int (Int32.ofNat len)), .val .null, .val (.ref s.heap.size)] [])) := c14.trans (st15 _ (Steps.refl _))
  have ap := apart (Or.inr ⟨_, (wk W (.laysFinal "java/lang/String" "java/lang/String" "value" "[B"))⟩) (Or.inr ⟨_, (wk W (.laysFinal "java/lang/String" "java/lang/String" "coder" "B"))⟩) f1 f2 (t₁ := .array .byte) (t₂ := .byte) (by decide +kernel) (by decide +kernel) (by decide)
  have al := X8.warmed.alike.symm.trans X15.warmed.alike
  have n7 : T11.heap[s.heap.size]? = some N := by rw [q11]; exact n1.1
  exact ⟨T15, none, _, _, _, X15, by simp, rfl, by omega, (fun _ => rfl), ⟨rfl, _, N, bl15, ((Same.refl D _).set _ (by simp)).set _ (by simp), sl15, (Cell.slots_setSlot_ne _ ap).trans sl13, n1.keep al (p15.other hne (p13.other hne n7)), n2, by rw [al.findClass]; exact n3, n4, n5, fun y c h1 h2 => p15.other h1 (p13.other h1 (by rw [q11]; exact n6 y c h2)), by rw [p15.2.2, p13.2.2, q11]; exact z8⟩, fun fs hl => c16.trans (X15.returnOut hexec hret (hb hbytes d57) hl)⟩
end New4
namespace New1
def yN : MethodName := ⟨"java/lang/String", "<init>", "([C)V"⟩
abbrev yB : ByteArray := jdk_42_method_3_code
theorem d0 : decode yB 0 = .ok (.aload_n 0, 1) := by decide +kernel
theorem d1 : decode yB 1 = .ok (.aload_n 1, 1) := by decide +kernel
theorem d2 : decode yB 2 = .ok (.iconst 0, 1) := by decide +kernel
theorem d3 : decode yB 3 = .ok (.aload_n 1, 1) := by decide +kernel
theorem d4 : decode yB 4 = .ok (.arraylength, 1) := by decide +kernel
theorem d5 : decode yB 5 = .ok (.aconst_null, 1) := by decide +kernel
theorem d6 : decode yB 6 = .ok (.invokespecial 27, 3) := by decide +kernel
theorem d9 : decode yB 9 = .ok (.return_, 1) := by decide +kernel
def site : List Cond := [New4.tab] ++ initW "java/lang/String" 27 New4.yN
def tab : Cond := tabOf yN yB 2 none site
def P (a : Addr) (D : Cell) (fV fC : Field) (b : Addr) (A : Cell) (z : Int32) (args : Array Value) (s : State) : Prop := args = #[.ref a, .ref b] ∧ Blank "java/lang/String" a D s ∧ Found "java/lang/String" "value" "[B" fV s ∧ Found "java/lang/String" "coder" "B" fC s ∧ Ch b A s ∧ StaticIs s "java/lang/String" "COMPACT_STRINGS" "Z" (.int z) ∧ ¬ z = 0 ∧ 0 < A.slots.size ∧ A.slots.size ≤ 536870912 ∧ ∀ i, i < A.slots.size → ¬ 255 < cv A i
def E (a : Addr) (D : Cell) (fV fC : Field) (A : Cell) (r : Option Value) (s u : State) : Prop := Got a D fV fC A 0 A.slots.size r s u
/-- new String(chars), not empty, no char above 255: a Latin-1 String of their low bytes -/
theorem law (l : Launch) (a : Addr) (D : Cell) (fV fC : Field) (b : Addr) (A : Cell) (z : Int32) : Law l yN 2 1 3 52 yB 2 none site (P a D fV fC b A z) (E a D fV fC A) [⟨a, fC.slot⟩, ⟨a, fV.slot⟩] 1 A.slots.size := by
  refine Law.of_walk (plainFor_of_name (by decide +kernel)) (by decide +kernel) (by decide +kernel) (by decide) (fun _ _ h => by rw [h.1]; rfl) (fun _ U U' hal hh h => ⟨h.1, h.2.1.mv hal hh, h.2.2.1.al hal, h.2.2.2.1.al hal, h.2.2.2.2.1.mv hal hh, h.2.2.2.2.2.1.there hal hh, h.2.2.2.2.2.2⟩) (fun r U U' V V' h1 hal h2 h => Got.mv r U U' V V' h1 hal h2 h) ?_
  intro p e s m args below meth c s₁ X0 hexec hbytes hml hret hlk hnm hown hh0 W hP
  obtain ⟨rfl, hB, f1, f2, hA, s1, hz, l0, l2, hp⟩ := hP
  have c1 : Steps p.tables e below (s₁.setTop (entryFrame m #[.ref a, .ref b] 2)) (s₁.setTop (mkF m 0 #[.val (.ref a), .val (.ref b)] [])) := entry rfl
  have c2 : Steps p.tables e below (s₁.setTop (entryFrame m #[.ref a, .ref b] 2)) (s₁.setTop (mkF m 6 #[.val (.ref a), .val (.ref b)] [.null, .int (Int32.ofNat A.slots.size), .int 0, .ref b, .ref a])) := c1.trans (by
    refine XS.aloadN X0.here hexec rfl (hb hbytes d0) rfl rfl ?_
    refine XS.aloadN X0.here hexec rfl (hb hbytes d1) rfl rfl ?_
    refine iconstV X0.here hexec rfl 0 (hb hbytes d2) (by decide) ?_
    refine XS.aloadN X0.here hexec rfl (hb hbytes d3) rfl rfl ?_
    refine X0.alen hexec (hA.1.mv X0.warmed.alike hh0) rfl rfl (hb hbytes d4) ?_
    refine XS.aconstNull X0.here hexec rfl (hb hbytes d5) ?_
    exact Steps.refl _)
  obtain ⟨v3, T3, X3, E3, g3⟩ := X0.callN hexec (New4.law l a D fV fC b A z 0 A.slots.size) rfl hown (wks W (initW "java/lang/String" 27 New4.yN)) (W New4.tab (by simp only [site, List.mem_cons, List.mem_append, true_or, or_true])) (W := 0) (Nat.le_of_ble_eq_true rfl) (Nat.le_of_ble_eq_true rfl) (Nat.le_refl _) (by show 0 + A.slots.size ≤ A.slots.size; omega) (g := (mkF m 6 #[.val (.ref a), .val (.ref b)] [.null, .int (Int32.ofNat A.slots.size), .int (Int32.ofNat 0), .ref b, .ref a])) rfl (by rw [hml]; rfl) c2 (argsL := [.ref b, .int (Int32.ofNat 0), .int (Int32.ofNat A.slots.size), .null]) (rest := []) rfl rfl (by show 2 * 0 + 0 ≤ _; decide) (hb hbytes d6) (⟨rfl, hB.mv X0.warmed.alike hh0, f1.al X0.warmed.alike, f2.al X0.warmed.alike, hA.mv X0.warmed.alike hh0, s1.there X0.warmed.alike hh0, hz, l0, by omega, l2, fun i hi => by rw [Nat.zero_add]; exact hp i hi⟩)
  have e0 := Got.mv _ s₁ s _ _ hh0.symm (Vm.Alike.refl _) rfl E3
  obtain rfl := e0.1
  have c4 : Steps p.tables e below (s₁.setTop (entryFrame m #[.ref a, .ref b] 2)) (T3.setTop (mkF m 9 #[.val (.ref a), .val (.ref b)] [])) := g3
  exact ⟨T3, none, _, _, _, X3, by simp, rfl, by omega, (fun _ => rfl), e0, fun fs hl => c4.trans (X3.returnOut hexec hret (hb hbytes d9) hl)⟩
theorem pays {l : Launch} {R : Room} {p : Program} {e : Env} {below : List Frame} {s : State} {sargs : Array Value} {len W : Nat} (a : Addr) (D : Cell) (fV fC : Field) (b : Addr) (A : Cell) (z : Int32) (htab : tab.before sargs s = true) (hfr : 4 ≤ R.frames) (hlo : W + 65 ≤ R.locals) :
    Back l R p e below s sargs yN len W (fun A₁ a₁ => A₁.cells + 1 ≤ R.cells ∧ A₁.slots + A.slots.size ≤ R.slots ∧ P a D fV fC b A z a₁ A₁.U) (fun A₁ _ v₁ B₁ => E a D fV fC A v₁ A₁.U B₁.U ∧ B₁.locs = A₁.locs ++ [⟨a, fC.slot⟩, ⟨a, fV.slot⟩] ∧ B₁.cells = A₁.cells + 1 ∧ B₁.slots = A₁.slots + A.slots.size) :=
  (law l a D fV fC b A z).pays htab hfr (by omega)
end New1
/-- the byte, read back as charAt reads it, is the char -/
theorem lo8_mask {x : Int32} (h0 : ¬ x < 0) (h1 : ¬ 255 < x) : lo8 x &&& 255 = x := by
  have t : ∀ k : Fin 256, lo8 (Int32.ofNat k.val) &&& 255 = Int32.ofNat k.val := by decide +kernel
  rw [Int32.lt_iff_toInt_lt] at h0 h1
  have e0 : (0 : Int32).toInt = 0 := rfl
  have e1 : (255 : Int32).toInt = 255 := rfl
  obtain ⟨k, hk⟩ : ∃ k : Nat, x.toInt = k := ⟨x.toInt.toNat, by omega⟩
  have hx : x = Int32.ofNat k := Int32.toInt_inj.mp (by rw [hk, Int32.toInt_ofNat_small (by omega)])
  rw [hx]
  exact t ⟨k, by omega⟩
end StrChars
namespace StrChars.Road
open Jvm Sem ClassFile Op Lib Jvm.Stand Jvm.Free Jvm.Free.XT
open Jvm.Lib.Cold (StaticIs)
abbrev ST : String := "java/lang/String"
/-- every table word that New1's law asks, flat -/
abbrev words : List Jvm.Cond := [.code New1.yN New1.yB 2 none, .initialized ST, .methodLink ST 27 New4.yN, .instanceMethod New4.yN,
  .code New4.yN New4.yB 6 none, .fieldLink ST 38 ST "COMPACT_STRINGS" "Z", .laysFinal ST ST "value" "[B", .fieldLink ST 9 ST "value" "[B", .laysFinal ST ST "coder" "B", .fieldLink ST 15 ST "coder" "B",
  .methodLink ST 1 Lib.objectInit, .instanceMethod Lib.objectInit, .code Lib.objectInit ⟨#[0xb1]⟩ 1 none, .methodLink ST 177 Cmp3.yN, .static Cmp3.yN, .methodLink ST 47 CodL.yN, .static CodL.yN,
  .code Cmp3.yN Cmp3.yB 6 (some (.array .byte)), .initialized U16, .arrayClass .byte, .methodLink U16 115 Cmp5.yN, .static Cmp5.yN, .code Cmp5.yN Cmp5.yB 7 (some .int), .code CodL.yN CodL.yB 2 (some .byte)]
theorem tab_of {a : Array Value} {s : State} (h : ∀ w ∈ words, w.before a s = true) : New1.tab.before a s = true := by
  have h5 : Cmp5.tab.before a s = true := unparts (wk h (.code Cmp5.yN Cmp5.yB 7 (some .int))) (wks h (.initialized Cmp5.yN.cls :: Cmp5.site))
  have hc : CodL.tab.before a s = true := unparts (wk h (.code CodL.yN CodL.yB 2 (some .byte))) (wks h (.initialized CodL.yN.cls :: CodL.site))
  have q5 : ∀ w ∈ Cmp5.tab :: words, w.before a s = true := fun w hw => (List.mem_cons.mp hw).elim (fun e => e ▸ h5) (h w)
  have h3 : Cmp3.tab.before a s = true := unparts (wk q5 (.code Cmp3.yN Cmp3.yB 6 (some (.array .byte)))) (wks q5 (.initialized Cmp3.yN.cls :: Cmp3.site))
  have q3 : ∀ w ∈ Cmp3.tab :: CodL.tab :: words, w.before a s = true := fun w hw => (List.mem_cons.mp hw).elim (fun e => e ▸ h3) fun hw => (List.mem_cons.mp hw).elim (fun e => e ▸ hc) (h w)
  have h4 : New4.tab.before a s = true := unparts (wk q3 (.code New4.yN New4.yB 6 none)) (wks q3 (.initialized New4.yN.cls :: New4.site))
  have q4 : ∀ w ∈ New4.tab :: words, w.before a s = true := fun w hw => (List.mem_cons.mp hw).elim (fun e => e ▸ h4) (h w)
  exact unparts (wk q4 (.code New1.yN New1.yB 2 none)) (wks q4 (.initialized New1.yN.cls :: New1.site))
/-- the words ride from the start Z to the walk's own state -/
theorem moved {Z s : State} {a0 args : Array Value} (hZ : Z.Warmed39 s.vm) (hw : ∀ d ∈ words, d.before a0 Z = true) : ∀ d ∈ words, d.before args s = true := fun d hd => by
  have q := hw d hd
  have t : ∀ d ∈ words, d = .arrayClass .byte ∨ (d.onTables && d.keepsFace) = true := by decide +kernel
  rcases t d hd with rfl | t
  · exact RoadKit.mvA hZ q
  · exact RoadKit.mv hZ q t
/-- WHAT COMES BACK, over the tables of the start Z: h the heap at the call, h' behind it -/
def Q (Z : State) (x : Addr) (A : Cell) (h : Heap) (v : Option Value) (h' : Heap) (L : List Loc) : Prop := v = none ∧ (∀ y ∈ L, y.base = x) ∧ RoadKit.Keep h h' [x] ∧ h'.size = h.size + 1 ∧ RoadKit.Exa Z h' x ST ∧ RoadKit.Fld Z h' x ST "value" "[B" (.ref h.size) ∧ RoadKit.Fld Z h' x ST "coder" "B" (.int 0) ∧
  (∃ V : Cell, RoadKit.Arr Z h' h.size V .byte ∧ V.vm = .none ∧ Z.vm.findClass "[B" = some V.cls ∧ V.slots.size = A.slots.size ∧ ∀ j, j < A.slots.size → V.slots[j]? = some (.int (lo8 (cv A j)))) ∧
  ∀ (O n d : String) (w : Value), RoadKit.Fld Z h x O n d w → RoadKit.slotOf Z O n d ≠ RoadKit.slotOf Z ST "value" "[B" → RoadKit.slotOf Z O n d ≠ RoadKit.slotOf Z ST "coder" "B" → RoadKit.Fld Z h' x O n d w
/-- **new String(chars) AT A CALL, IN THE ROAD'S FORM**: for specialBack behind newO: x the fresh String, b the char[] with the cell A -/
theorem back {p : Program} {l : Launch} {e : Env} {R : Room} {s : State} {args : Array Value} {below : List Frame} {len W : Nat} {Z : State} {a0 : Array Value} {h : Heap} (hZ : Z.Warmed39 s.vm) (hw : ∀ d ∈ words, d.before a0 Z = true) {kI : Nat} (wi : (Jvm.Cond.instantiable ST kI).before a0 Z = true)
    {x b : Addr} {A : Cell} {z : Int32} {v0 c0 : Value} (E : RoadKit.Exa Z h x ST) (V : RoadKit.Fld Z h x ST "value" "[B" v0) (C : RoadKit.Fld Z h x ST "coder" "B" c0) (K : RoadKit.Arr Z h b A .char) (hty : Typed .char A) (S : RoadKit.Sta Z h ST "COMPACT_STRINGS" "Z" (.int z)) (hz : ¬ z = 0)
    (l0 : 0 < A.slots.size) (l2 : A.slots.size ≤ 536870912) (hp : ∀ i, i < A.slots.size → ¬ 255 < cv A i) (hfr : 4 ≤ R.frames) (hlo : W + 65 ≤ R.locals) :
    Back l R p e below s args New1.yN len W (fun P a => a = #[.ref x, .ref b] ∧ P.U.heap = h ∧ P.cells + 1 ≤ R.cells ∧ P.slots + A.slots.size ≤ R.slots)
      (fun P _ v B => ∃ L, Q Z x A h v B.U.heap L ∧ B.locs = P.locs ++ L ∧ B.cells = P.cells + 1 ∧ B.slots = P.slots + A.slots.size) := by
  intro m meth c P g ig mk a X hg hsize hdg hW hn hp'
  obtain ⟨rfl, rfl, r1, r2⟩ := hp'
  have al : Z.vm.Alike P.U.vm := hZ.alike.trans X.warmed.alike
  obtain ⟨D, cfV, kV, iV, fV, hD, gV, stV, knV, obV, asV, slV⟩ := id V
  obtain ⟨D', cfC, kC, iC, fC, hD', gC, stC, -, -, asC, slC⟩ := id C
  cases hD.symm.trans hD'
  obtain ⟨D2, kD, e1, e2, e3, e4, e5⟩ := id E
  cases hD.symm.trans e1
  obtain ⟨c2, k2, i1, i2, i3, -⟩ := Cond.instantiable_spec wi
  cases e2.symm.trans i1
  cases e3.symm.trans i2
  obtain ⟨kU, u1, u2⟩ := al.2.2 _ _ e3
  have hB : Blank ST x D P.U := ⟨hD, ⟨knV, fun q hq => by rw [hq] at obV; cases obV⟩, by rw [al.findClass]; exact e2, kU, u1, by rw [u2]; exact i3, by rw [u2]; exact e5 i3⟩
  have F1 : Found ST "value" "[B" fV P.U := ⟨SBG.found_only al ⟨cfV, kV, iV, gV⟩, stV⟩
  have F2 : Found ST "coder" "B" fC P.U := ⟨SBG.found_only al ⟨cfC, kC, iC, gC⟩, stC⟩
  have hA : Ch b A P.U := ⟨⟨K.1, State.isArrayOf_alike al K.2.1, K.2.2, by omega⟩, hty⟩
  have hS : StaticIs P.U ST "COMPACT_STRINGS" "Z" (.int z) := by
    obtain ⟨cfS, iS, kS, fS, st, cS, t1, t2, t3, t4, t5, t6, t7⟩ := S
    exact StaticIs.there (s := { Z with heap := P.U.heap }) ⟨cfS, iS, kS, fS, st, cS, t1, t2, t3, t4, t5, (fun q => by rw [q] at t6; cases t6), t7⟩ al rfl
  obtain ⟨v, B, X', ⟨⟨hv, E', V', q1, q2, q3, q4, q5, q6, q7, q8, q9, q10, q11⟩, hl, hc, hs⟩, st⟩ := New1.pays x D fV fC b A z (tab_of (moved hZ hw)) hfr hlo m meth c P g ig mk _ X hg hsize hdg hW hn ⟨r1, r2, rfl, hB, F1, F2, hA, hS, hz, l0, l2, hp⟩
  have al' : Z.vm.Alike B.U.vm := hZ.alike.trans X'.warmed.alike
  have hsz : E'.slots.size = D.slots.size := by
    obtain ⟨-, -, -, kB, w1, w2, w3⟩ := q1
    obtain ⟨kB', y1, y2⟩ := al'.2.2 _ _ e3
    rw [q2.2.1] at w1
    cases w1.symm.trans y1
    rw [w3, e5 i3, y2]
  refine ⟨v, B, X', ⟨_, ⟨hv, ?_, ⟨by omega, fun y cy hy hn' => q10 y cy (by simpa using hn') hy, fun y cy hy => ?_⟩, q11, ⟨E', _, q1.1, by rw [q2.2.1]; exact e2, by rw [q2.2.1]; exact e3, by rw [q2.1]; exact obV, fun _ => by rw [hsz]; exact e5 i3⟩,
    ⟨E', cfV, kV, iV, fV, q1.1, gV, stV, by rw [q2.1]; exact knV, by rw [q2.1]; exact obV, by rw [q2.2.1]; exact asV, q3⟩, ⟨E', cfC, kC, iC, fC, q1.1, gC, stC, by rw [q2.1]; exact knV, by rw [q2.1]; exact obV, by rw [q2.2.1]; exact asC, q4⟩,
    ⟨V', ⟨q5.1, State.isArrayOf_alike al'.symm q5.2.1, q5.2.2.1⟩, q6, by rw [← al'.findClass]; exact q7, q8, fun j hj => by have := q9 j hj; rwa [Nat.zero_add] at this⟩, fun O n d w F n1 n2 => ?_⟩, hl, hc, hs⟩, st⟩
  · intro y hy
    simp only [List.mem_cons, List.not_mem_nil, or_false] at hy
    rcases hy with rfl | rfl <;> rfl
  · by_cases q : y = x
    · subst q
      cases hD.symm.trans hy
      exact ⟨E', q1.1, q2.2.1, q2.1, hsz⟩
    · exact ⟨cy, q10 y cy q hy, rfl, rfl, rfl⟩
  · obtain ⟨D3, cf, k, i, f, g1, g2, g3, g4, g5, g6, g7⟩ := F
    cases hD.symm.trans g1
    simp only [RoadKit.slotOf, g2, gV, gC, Option.map_some, Option.getD_some] at n1 n2
    exact ⟨E', cf, k, i, f, q1.1, g2, g3, by rw [q2.1]; exact g4, by rw [q2.1]; exact g5, by rw [q2.2.1]; exact g6, by rw [q2.2.2 f.slot (by simp [n1, n2])]; exact g7⟩
end StrChars.Road
namespace StrChars.Road
open Jvm Sem ClassFile Op Lib Jvm.Stand Jvm.Free Jvm.Free.XT
/-- WHAT COMES BACK, the byte[] as a list of values -/
def QA (Z : State) (x : Addr) (zn : Int32) (cs : List Int32) (h : Heap) (v : Option Value) (h' : Heap) (L : List Loc) : Prop := v = none ∧ (∀ y ∈ L, y.base = x) ∧ RoadKit.Keep h h' [x] ∧ h'.size = h.size + 1 ∧ RoadKit.Exa Z h' x ST ∧ RoadKit.Fld Z h' x ST "value" "[B" (.ref h.size) ∧ RoadKit.Fld Z h' x ST "coder" "B" (.int 0) ∧
  (∃ kb, Z.vm.findClass "[B" = some kb ∧ RoadKit.Arv Z h' h.size kb .byte zn (cs.map fun c => .int (lo8 c)) (.int 0)) ∧
  ∀ (O n d : String) (w : Value), RoadKit.Fld Z h x O n d w → RoadKit.slotOf Z O n d ≠ RoadKit.slotOf Z ST "value" "[B" → RoadKit.slotOf Z O n d ≠ RoadKit.slotOf Z ST "coder" "B" → RoadKit.Fld Z h' x O n d w
/-- **new String(chars) AT A CALL, THE ARRAYS AS LISTS**: the char[] at b holds cs, not empty, no char above 255 -/
theorem backArv {p : Program} {l : Launch} {e : Env} {R : Room} {s : State} {args : Array Value} {below : List Frame} {len W : Nat} {Z : State} {a0 : Array Value} {h : Heap} (hZ : Z.Warmed39 s.vm) (hw : ∀ d ∈ words, d.before a0 Z = true) {kI : Nat} (wi : (Jvm.Cond.instantiable ST kI).before a0 Z = true)
    {x b : Addr} {k : ClassId} {zn z : Int32} {cs : List Int32} {dv v0 c0 : Value} (E : RoadKit.Exa Z h x ST) (V : RoadKit.Fld Z h x ST "value" "[B" v0) (C : RoadKit.Fld Z h x ST "coder" "B" c0) (K : RoadKit.Arv Z h b k .char zn (cs.map Value.int) dv) (S : RoadKit.Sta Z h ST "COMPACT_STRINGS" "Z" (.int z)) (hz : ¬ z = 0)
    (hlen : zn.toNatClampNeg = cs.length) (h0 : 0 < cs.length) (hbig : cs.length ≤ 536870912) (hall : ∀ c ∈ cs, ¬ 255 < c) (hfr : 4 ≤ R.frames) (hlo : W + 65 ≤ R.locals) :
    Back l R p e below s args New1.yN len W (fun P a => a = #[.ref x, .ref b] ∧ P.U.heap = h ∧ P.cells + 1 ≤ R.cells ∧ P.slots + cs.length ≤ R.slots)
      (fun P _ v B => ∃ L, QA Z x zn cs h v B.U.heap L ∧ B.locs = P.locs ++ L ∧ B.cells = P.cells + 1 ∧ B.slots = P.slots + cs.length) := by
  obtain ⟨A, K1, K2, K3, K4, K5, K6⟩ := K
  have e : A.slots.size = cs.length := K3.trans hlen
  have hat : ∀ (i : Nat) (hi : i < cs.length), A.slots[i]? = some (.int cs[i]) := fun i hi => by rw [K5 i (by omega)]; simp [List.getD_eq_getElem?_getD, hi]
  have hcv : ∀ (i : Nat) (hi : i < cs.length), cv A i = cs[i] := fun i hi => by unfold cv; rw [hat i hi]
  have hty : Typed .char A := fun i v hv => by
    have hi : i < A.slots.size := (Array.getElem?_eq_some_iff.mp hv).1
    have q := K5 i hi
    rw [hv] at q
    rw [Option.some.inj q]
    exact K6 i hi
  refine Back.mono (back hZ hw wi E V C K1 hty S hz (by omega) (by omega) (fun i hi => by rw [hcv i (by omega)]; exact hall _ (List.getElem_mem _)) hfr hlo) (fun P a hp => ⟨hp.1, hp.2.1, hp.2.2.1, by rw [e]; exact hp.2.2.2⟩) (fun P a v B hp hq => ?_)
  obtain ⟨L, ⟨q1, q2, q3, q4, q5, q6, q7, ⟨V', v1, v2, v3, v4, v5⟩, q9⟩, hl, hc, hs⟩ := hq
  refine ⟨L, ⟨q1, q2, q3, q4, q5, q6, q7, ⟨V'.cls, v3, V', v1, rfl, by rw [v4, e, hlen], K4, fun i hi => ?_, fun i hi => ?_⟩, q9⟩, hl, hc, by rw [hs, e]⟩
  · have hi' : i < cs.length := by omega
    rw [v5 i (by omega), hcv i hi']; simp [List.getD_eq_getElem?_getD, hi']
  · have hi' : i < cs.length := by omega
    simp only [List.getD_eq_getElem?_getD, List.getElem?_map, List.getElem?_eq_getElem hi', Option.map_some, Option.getD_some]
    exact fits_lo8 _
end StrChars.Road
namespace StrChars.Road
open Jvm Sem ClassFile Op Lib Jvm.Stand Jvm.Free Jvm.Free.XT
/-- WHAT COMES BACK, in the writer's own shape -/
def QV (Z : State) (x : Addr) (N : Int32) (bs : List Int32) (h : Heap) (n0 : Nat) (v : Option Value) (h' : Heap) (L : List Loc) : Prop := v = none ∧ RoadKit.Fr n0 L ∧ RoadKit.Keep h h' [x] ∧ RoadKit.Exa Z h' x ST ∧ RoadKit.Fld Z h' x ST "coder" "B" (.int 0) ∧
  ∃ (t : Addr) (kb : ClassId), n0 ≤ t ∧ h.size ≤ t ∧ ¬ t = x ∧ RoadKit.Fld Z h' x ST "value" "[B" (.ref t) ∧ RoadKit.Arv Z h' t kb .byte N (bs.map Value.int) (.int 0)
/-- **new String(chars) AT A CALL, FOR THE WRITER**: a char[] of n known ints, each 0 to 255 -/
theorem backV {p : Program} {l : Launch} {e : Env} {R : Room} {s : State} {args : Array Value} {below : List Frame} {len W : Nat} {Z : State} {a0 : Array Value} {h : Heap} (hZ : Z.Warmed39 s.vm) (hw : ∀ d ∈ words, d.before a0 Z = true) {kI : Nat} (wi : (Jvm.Cond.instantiable ST kI).before a0 Z = true)
    {x b : Addr} {kC : ClassId} {cs bs : List Int32} {d v0 c0 : Value} {z N : Int32} {n n0 : Nat} (hx0 : n0 ≤ x) (hh0 : n0 ≤ h.size) (E : RoadKit.Exa Z h x ST) (V : RoadKit.Fld Z h x ST "value" "[B" v0) (C : RoadKit.Fld Z h x ST "coder" "B" c0) (K : RoadKit.Arv Z h b kC .char N (cs.map Value.int) d) (S : RoadKit.Sta Z h ST "COMPACT_STRINGS" "Z" (.int z)) (hz : ¬ z = 0)
    (hn : cs.length = n) (hN : N = Int32.ofNat n) (l0 : 0 < n) (l2 : n ≤ 4000) (hp : ∀ c ∈ cs, ¬ c < 0 ∧ ¬ (255 : Int32) < c) (hb : bs = cs.map (fun c => c.toInt8.toInt32)) (hfr : 4 ≤ R.frames) (hlo : W + 65 ≤ R.locals) :
    Back l R p e below s args (⟨"java/lang/String", "<init>", "([C)V"⟩ : MethodName) len W (fun P a => a = #[.ref x, .ref b] ∧ P.U.heap = h ∧ P.cells + 1 ≤ R.cells ∧ P.slots + n ≤ R.slots)
      (fun P _ v B => ∃ L, QV Z x N bs h n0 v B.U.heap L ∧ B.locs = P.locs ++ L ∧ B.cells = P.cells + 1 ∧ B.slots = P.slots + n) := by
  subst hn hN hb
  refine Back.mono (backArv hZ hw wi E V C K S hz (n32 (by omega)) l0 (by omega) (fun c hc => (hp c hc).2) hfr hlo) (fun P a hp => hp) (fun P a v B hp hq => ?_)
  obtain ⟨L, ⟨q1, q2, q3, q4, q5, q6, q7, ⟨kb, v1, v2⟩, q9⟩, hl, hc, hs⟩ := hq
  exact ⟨L, ⟨q1, fun y hy => by rw [q2 y hy]; exact hx0, q3, q5, q7, h.size, kb, hh0, Nat.le_refl _, Nat.ne_of_gt E.lt, q6, by rw [List.map_map]; exact v2⟩, hl, hc, hs⟩
end StrChars.Road
namespace StrChars
open Jvm Sem ClassFile Op Lib Jvm.Stand Jvm.Free.XT Jvm.Free.ALB Jvm.Free.JM Jvm.Free
open Jvm.Lib.Cold (StaticIs)
def hi8 (x : Int32) : Int32 := lo8 (x >>> ((8 : Int32) &&& 31))
/-- what StringUTF16.getChar makes of two bytes -/
def pairCh (u v : Int32) : Int32 := (((u &&& 255) <<< ((0 : Int32) &&& 31)) ||| ((v &&& 255) <<< ((8 : Int32) &&& 31))).toUInt32.toUInt16.toUInt32.toInt32
theorem lo8_and (x : Int32) : (lo8 x &&& 255).toBitVec.toNat = x.toBitVec.toNat % 256 := by
  have h : (lo8 x).toBitVec = (x.toBitVec.signExtend 8).signExtend 32 := by rw [lo8, Int8.toBitVec_toInt32, Int32.toBitVec_toInt8]
  rw [Int32.toBitVec_and, BitVec.toNat_and, h]
  have e : ((x.toBitVec.signExtend 8).signExtend 32).toNat % 256 = x.toBitVec.toNat % 256 := by
    rw [BitVec.toNat_signExtend]
    have hlt := x.toBitVec.isLt
    simp only [BitVec.toNat_setWidth, BitVec.toNat_signExtend]
    split <;> split <;> omega
  rw [← e]
  exact Nat.and_two_pow_sub_one_eq_mod _ 8
theorem pair_says {c : Int32} (h0 : ¬ c < 0) (h1 : ¬ 65535 < c) : pairCh (lo8 c) (hi8 c) = c := by
  rw [Int32.lt_iff_toInt_lt] at h0 h1
  have e0 : (0 : Int32).toInt = 0 := rfl
  have e1 : (65535 : Int32).toInt = 65535 := rfl
  have hc : c.toInt = c.toBitVec.toNat := by
    have := c.toBitVec.isLt
    have e : c.toInt = c.toBitVec.toInt := rfl
    rw [e] at h0 h1
    rw [e]
    rw [BitVec.toInt_eq_toNat_cond] at h0 h1 ⊢
    split at h0 <;> split <;> omega
  have hn : c.toBitVec.toNat < 65536 := by omega
  have a1 := lo8_and c
  have a2 : (hi8 c &&& 255).toBitVec.toNat = c.toBitVec.toNat / 256 := by
    rw [hi8, lo8_and]
    have e : ((8 : Int32) &&& 31) = 8 := by decide
    rw [e, Int32.toBitVec_shiftRight]
    have e2 : ((8 : Int32).toBitVec.smod 32) = 8#32 := by decide
    rw [e2, BitVec.sshiftRight_eq', BitVec.toNat_sshiftRight_of_msb_false (by rw [BitVec.msb_eq_false_iff_two_mul_lt]; omega)]
    show c.toBitVec.toNat >>> 8 % 256 = _
    rw [Nat.shiftRight_eq_div_pow]
    omega
  unfold pairCh
  apply Int32.toBitVec_inj.mp
  apply BitVec.eq_of_toNat_eq
  have f0 : ((0 : Int32) &&& 31) = 0 := by decide
  have f8 : ((8 : Int32) &&& 31) = 8 := by decide
  rw [f0, f8]
  have g : (((lo8 c &&& 255) <<< (0 : Int32)) ||| ((hi8 c &&& 255) <<< (8 : Int32))).toBitVec.toNat = c.toBitVec.toNat := by
    rw [Int32.toBitVec_or, Int32.toBitVec_shiftLeft, Int32.toBitVec_shiftLeft]
    have s0 : ((0 : Int32).toBitVec.smod 32) = 0#32 := by decide
    have s8 : ((8 : Int32).toBitVec.smod 32) = 8#32 := by decide
    rw [s0, s8, BitVec.toNat_or]
    simp only [BitVec.shiftLeft_eq', BitVec.toNat_shiftLeft, a1, a2]
    show (c.toBitVec.toNat % 256) <<< 0 % 2 ^ 32 ||| (c.toBitVec.toNat / 256) <<< 8 % 2 ^ 32 = _
    rw [Nat.shiftLeft_zero, Nat.mod_eq_of_lt (show c.toBitVec.toNat % 256 < 2 ^ 32 by omega), Nat.mod_eq_of_lt (show (c.toBitVec.toNat / 256) <<< 8 < 2 ^ 32 by rw [Nat.shiftLeft_eq]; omega), Nat.or_comm, ← Nat.shiftLeft_add_eq_or_of_lt (by omega), Nat.shiftLeft_eq]
    omega
  show BitVec.toNat (((((lo8 c &&& 255) <<< (0 : Int32)) ||| ((hi8 c &&& 255) <<< (8 : Int32))).toBitVec.setWidth 16).setWidth 32) = _
  rw [BitVec.toNat_setWidth, BitVec.toNat_setWidth, g]
  omega
end StrChars
namespace StrChars
open Jvm Sem ClassFile Op Lib Jvm.Stand Jvm.Free.XT Jvm.Free.ALB Jvm.Free.JM Jvm.Free
open Jvm.Lib.Cold (StaticIs)
/-- the array's cell V codes the n chars f 0 .. f (n - 1) by the coder cd, as the JDK does: coder 1 just where some char is above 255 -/
def Cod (cd : Int32) (n : Nat) (f : Nat → Int32) (V : Cell) : Prop := (cd = 0 ∧ V.slots.size = n ∧ ∀ j, j < n → V.slots[j]? = some (.int (lo8 (f j))) ∧ ¬ 255 < f j) ∨ (cd = 1 ∧ V.slots.size = 2 * n ∧ (∀ j, j < n → V.slots[2 * j]? = some (.int (lo8 (f j))) ∧ V.slots[2 * j + 1]? = some (.int (hi8 (f j)))) ∧ ∃ j, j < n ∧ 255 < f j)
/-- **x is a String of the n chars f 0 .. f (n - 1)**, Latin-1 or UTF-16; its array at t has the cell V -/
def Txt (x t : Addr) (V : Cell) (cd : Int32) (n : Nat) (f : Nat → Int32) (U : State) : Prop := Exact "java/lang/String" x U ∧ Has x "java/lang/String" "value" "[B" (.ref t) U ∧ Has x "java/lang/String" "coder" "B" (.int cd) U ∧ XT.Arr .byte t V U ∧ Cod cd n f V ∧ ∀ j, j < n → ¬ f j < 0 ∧ ¬ 65535 < f j
theorem Txt.mv {x t : Addr} {V : Cell} {cd : Int32} {n : Nat} {f : Nat → Int32} {U U' : State} (h : Txt x t V cd n f U) (hal : U.vm.Alike U'.vm) (hh : U'.heap = U.heap) : Txt x t V cd n f U' := ⟨h.1.mv hal hh, h.2.1.mv hal hh, h.2.2.1.mv hal hh, h.2.2.2.1.mv hal hh, h.2.2.2.2⟩
end StrChars
namespace StrChars.Road
open Jvm Sem ClassFile Op Lib Jvm.Stand Jvm.Free Jvm.Free.XT
open Jvm.Lib.Cold (StaticIs)
theorem consq {a : Array Value} {s : State} {c : Jvm.Cond} {L : List Jvm.Cond} (h0 : c.before a s = true) (h : ∀ w ∈ L, w.before a s = true) : ∀ w ∈ c :: L, w.before a s = true := fun w hw => (List.mem_cons.mp hw).elim (fun e => e ▸ h0) (h w)
/-- the bytes of the chars cs, low before high -/
def wideBytes : List Int32 → List Value
  | [] => []
  | c :: cs => .int (lo8 c) :: .int (hi8 c) :: wideBytes cs
theorem wide_lo (d : Value) : ∀ (cs : List Int32) (j : Nat), j < cs.length → (wideBytes cs).getD (2 * j) d = .int (lo8 (cs.getD j 0))
  | [], j, h => absurd h (Nat.not_lt_zero j)
  | c :: cs, 0, _ => rfl
  | c :: cs, j + 1, h => by
    have q := wide_lo d cs j (by simpa using h)
    rw [show 2 * (j + 1) = 2 * j + 1 + 1 from by omega]
    simpa [wideBytes] using q
theorem wide_hi (d : Value) : ∀ (cs : List Int32) (j : Nat), j < cs.length → (wideBytes cs).getD (2 * j + 1) d = .int (hi8 (cs.getD j 0))
  | [], j, h => absurd h (Nat.not_lt_zero j)
  | c :: cs, 0, _ => rfl
  | c :: cs, j + 1, h => by
    have q := wide_hi d cs j (by simpa using h)
    rw [show 2 * (j + 1) + 1 = 2 * j + 1 + 1 + 1 from by omega]
    simpa [wideBytes] using q
theorem low_at (d : Value) (cs : List Int32) (j : Nat) (h : j < cs.length) : (cs.map fun c => Value.int (lo8 c)).getD j d = .int (lo8 (cs.getD j 0)) := by
  simp [List.getD_eq_getElem?_getD, h]
/-- an array of N2 bytes vs codes the chars cs by the coder cd -/
def CodA (cs : List Int32) (cd N2 : Int32) (vs : List Value) : Prop := (cd = 0 ∧ N2 = Int32.ofNat cs.length ∧ vs = (cs.map fun c => Value.int (lo8 c)) ∧ ∀ c ∈ cs, ¬ 255 < c) ∨ (cd = 1 ∧ N2 = Int32.ofNat (2 * cs.length) ∧ vs = wideBytes cs ∧ ∃ c ∈ cs, 255 < c)
theorem CodA.cod {cs : List Int32} {cd N2 : Int32} {vs : List Value} {V : Cell} (h : CodA cs cd N2 vs) (hn : 2 * cs.length < 2 ^ 31) (hs : V.slots.size = N2.toNatClampNeg) (hv : RoadKit.Has V vs (.int 0)) : Cod cd cs.length (fun j => cs.getD j 0) V := by
  rcases h with ⟨rfl, rfl, rfl, h⟩ | ⟨rfl, rfl, rfl, c, hc, hw⟩
  · rw [n32 (by omega)] at hs
    exact Or.inl ⟨rfl, hs, fun j hj => ⟨by rw [hv j (by omega), low_at _ _ _ hj], by
      have e : cs.getD j 0 = cs[j] := by simp [List.getD_eq_getElem?_getD, hj]
      show ¬ 255 < cs.getD j 0
      rw [e]; exact h _ (List.getElem_mem _)⟩⟩
  · rw [n32 (by omega)] at hs
    obtain ⟨j, hj, rfl⟩ := List.getElem_of_mem hc
    exact Or.inr ⟨rfl, hs, fun j hj => ⟨by rw [hv _ (by omega), wide_lo _ _ _ hj], by rw [hv _ (by omega), wide_hi _ _ _ hj]⟩, j, hj, by
      have e : cs.getD j 0 = cs[j] := by simp [List.getD_eq_getElem?_getD, hj]
      show 255 < cs.getD j 0
      rw [e]; exact hw⟩
/-- an object of exactly java/lang/String, its two fields found: as the laws ask it -/
theorem strObj {Z U : State} {a0 : Array Value} {kI : Nat} (wi : (Jvm.Cond.instantiable ST kI).before a0 Z = true) (al : Z.vm.Alike U.vm) {x : Addr} {v0 c0 : Value} (E : RoadKit.Exa Z U.heap x ST) (V : RoadKit.Fld Z U.heap x ST "value" "[B" v0) (C : RoadKit.Fld Z U.heap x ST "coder" "B" c0) :
    ∃ (D : Cell) (fV fC : Field), Blank ST x D U ∧ Found ST "value" "[B" fV U ∧ Found ST "coder" "B" fC U ∧ D.slots[fV.slot]? = some v0 ∧ D.slots[fC.slot]? = some c0 ∧ RoadKit.slotOf Z ST "value" "[B" = fV.slot ∧ RoadKit.slotOf Z ST "coder" "B" = fC.slot := by
  obtain ⟨D, cfV, kV, iV, fV, hD, gV, stV, knV, obV, asV, slV⟩ := V
  obtain ⟨D', cfC, kC, iC, fC, hD', gC, stC, -, -, asC, slC⟩ := C
  cases hD.symm.trans hD'
  obtain ⟨D2, kD, e1, e2, e3, e4, e5⟩ := E
  cases hD.symm.trans e1
  obtain ⟨c2, k2, i1, i2, i3, -⟩ := Cond.instantiable_spec wi
  cases e2.symm.trans i1
  cases e3.symm.trans i2
  obtain ⟨kU, u1, u2⟩ := al.2.2 _ _ e3
  exact ⟨D, fV, fC, ⟨hD, ⟨knV, fun q hq => by rw [hq] at obV; cases obV⟩, by rw [al.findClass]; exact e2, kU, u1, by rw [u2]; exact i3, by rw [u2]; exact e5 i3⟩, ⟨SBG.found_only al ⟨cfV, kV, iV, gV⟩, stV⟩, ⟨SBG.found_only al ⟨cfC, kC, iC, gC⟩, stC⟩, slV, slC, by simp [RoadKit.slotOf, gV], by simp [RoadKit.slotOf, gC]⟩
theorem sta_is {Z U : State} (al : Z.vm.Alike U.vm) {C n d : String} {v : Value} (S : RoadKit.Sta Z U.heap C n d v) : StaticIs U C n d v := by
  obtain ⟨cfS, iS, kS, fS, st, cS, t1, t2, t3, t4, t5, t6, t7⟩ := S
  exact StaticIs.there (s := { Z with heap := U.heap }) ⟨cfS, iS, kS, fS, st, cS, t1, t2, t3, t4, t5, (fun q => by rw [q] at t6; cases t6), t7⟩ al rfl
end StrChars.Road
namespace StrChars
open Jvm Sem ClassFile Op Lib Jvm.Stand Jvm.Free.XT Jvm.Free.ALB Jvm.Free.JM Jvm.Free
open Jvm.Lib.Cold (StaticIs)
/-- what place i of a byte[]'s cell holds -/
def yv (A : Cell) (i : Nat) : Int32 := match A.slots[i]? with | some (.int x) => x | _ => 0
theorem yv_get {a : Addr} {A : Cell} {U : State} (h : XT.Arr .byte a A U) (ht : Typed .byte A) {i : Nat} (hi : i < A.slots.size) : A.slots[i]? = some (.int (yv A i)) := by
  have e := Array.getElem?_eq_getElem hi
  have f := ht i _ e
  unfold yv; rw [e]
  generalize A.slots[i] = v at f
  cases v <;> simp [fits] at f ⊢
/-- the two arrays are equal, place for place -/
def EqC (A B : Cell) : Prop := A.slots.size = B.slots.size ∧ ∀ i, i < A.slots.size → yv A i = yv B i
/-- a boolean that says whether p -/
def Says01 (q : Prop) (r : Option Value) (s u : State) : Prop := ∃ v : Int32, r = some (.int v) ∧ u.heap = s.heap ∧ ((v = 1 ∧ q) ∨ (v = 0 ∧ ¬ q))
theorem Says01.mv {q : Prop} : ∀ r (U U' V V' : State), U'.heap = U.heap → V.vm.Alike V'.vm → V'.heap = V.heap → Says01 q r U V → Says01 q r U' V' :=
  fun r U U' V V' h1 _ h2 ⟨v, a, b, c⟩ => ⟨v, a, by rw [h1, h2]; exact b, c⟩
namespace LEq
def yN : MethodName := ⟨"java/lang/StringLatin1", "equals", "([B[B)Z"⟩
abbrev yB : ByteArray := jdk_43_method_13_code
theorem d0 : decode yB 0 = .ok (.aload_n 0, 1) := by decide +kernel
theorem d1 : decode yB 1 = .ok (.arraylength, 1) := by decide +kernel
theorem d2 : decode yB 2 = .ok (.aload_n 1, 1) := by decide +kernel
theorem d3 : decode yB 3 = .ok (.arraylength, 1) := by decide +kernel
theorem d4 : decode yB 4 = .ok (.if_icmp (.ne) 30, 3) := by decide +kernel
theorem d7 : decode yB 7 = .ok (.iconst 0, 1) := by decide +kernel
theorem d8 : decode yB 8 = .ok (.istore_n 2, 1) := by decide +kernel
theorem d9 : decode yB 9 = .ok (.iload_n 2, 1) := by decide +kernel
theorem d10 : decode yB 10 = .ok (.aload_n 0, 1) := by decide +kernel
theorem d11 : decode yB 11 = .ok (.arraylength, 1) := by decide +kernel
theorem d12 : decode yB 12 = .ok (.if_icmp (.ge) 20, 3) := by decide +kernel
theorem d15 : decode yB 15 = .ok (.aload_n 0, 1) := by decide +kernel
theorem d16 : decode yB 16 = .ok (.iload_n 2, 1) := by decide +kernel
theorem d17 : decode yB 17 = .ok (.baload, 1) := by decide +kernel
theorem d18 : decode yB 18 = .ok (.aload_n 1, 1) := by decide +kernel
theorem d19 : decode yB 19 = .ok (.iload_n 2, 1) := by decide +kernel
theorem d20 : decode yB 20 = .ok (.baload, 1) := by decide +kernel
theorem d21 : decode yB 21 = .ok (.if_icmp (.eq) 5, 3) := by decide +kernel
theorem d24 : decode yB 24 = .ok (.iconst 0, 1) := by decide +kernel
theorem d25 : decode yB 25 = .ok (.ireturn, 1) := by decide +kernel
theorem d26 : decode yB 26 = .ok (.iinc 2 1, 3) := by decide +kernel
theorem d29 : decode yB 29 = .ok (.goto (-20), 3) := by decide +kernel
theorem d32 : decode yB 32 = .ok (.iconst 1, 1) := by decide +kernel
theorem d33 : decode yB 33 = .ok (.ireturn, 1) := by decide +kernel
theorem d34 : decode yB 34 = .ok (.iconst 0, 1) := by decide +kernel
theorem d35 : decode yB 35 = .ok (.ireturn, 1) := by decide +kernel
def site : List Cond := []
def tab : Cond := tabOf yN yB 3 (some .boolean) site
def P (a : Addr) (A : Cell) (b : Addr) (B : Cell) (args : Array Value) (s : State) : Prop := args = #[.ref a, .ref b] ∧ XT.Arr .byte a A s ∧ Typed .byte A ∧ XT.Arr .byte b B s ∧ Typed .byte B
/-- whether two byte[] are equal, place for place -/
theorem law (l : Launch) (a : Addr) (A : Cell) (b : Addr) (B : Cell) : Law l yN 2 2 0 0 yB 3 (some .boolean) site (P a A b B) (Says01 (EqC A B)) [] 0 0 := by
  refine Law.of_walk (plainFor_of_name (by decide +kernel)) (by decide +kernel) (by decide +kernel) (by decide) (fun _ _ h => by rw [h.1]; rfl) (fun _ U U' hal hh h => ⟨h.1, h.2.1.mv hal hh, h.2.2.1, h.2.2.2.1.mv hal hh, h.2.2.2.2⟩) (fun r U U' V V' h1 hal h2 h => Says01.mv r U U' V V' h1 hal h2 h) ?_
  intro p e s m args below meth c s₁ X0 hexec hbytes hml hret hlk hnm hown hh0 W hP
  obtain ⟨rfl, hA, tA, hB, tB⟩ := hP
  have a31 := hA.2.2.2
  have b31 := hB.2.2.2
  have hA0 := hA.mv X0.warmed.alike hh0
  have hB0 := hB.mv X0.warmed.alike hh0
  have c1 : Steps p.tables e below (s₁.setTop (entryFrame m #[.ref a, .ref b] 3)) (s₁.setTop (mkF m 0 #[.val (.ref a), .val (.ref b), .unset] [])) := entry rfl
  have c2 : Steps p.tables e below (s₁.setTop (entryFrame m #[.ref a, .ref b] 3)) (s₁.setTop (mkF m 4 #[.val (.ref a), .val (.ref b), .unset] [.int (Int32.ofNat B.slots.size), .int (Int32.ofNat A.slots.size)])) := c1.trans (by
    refine XS.aloadN X0.here hexec rfl (hb hbytes d0) rfl rfl ?_
    refine X0.alen hexec hA0 rfl rfl (hb hbytes d1) ?_
    refine XS.aloadN X0.here hexec rfl (hb hbytes d2) rfl rfl ?_
    refine X0.alen hexec hB0 rfl rfl (hb hbytes d3) ?_
    exact Steps.refl _)
  by_cases hs : A.slots.size = B.slots.size
  · have c3 : Steps p.tables e below (s₁.setTop (entryFrame m #[.ref a, .ref b] 3)) (s₁.setTop (mkF m 9 #[.val (.ref a), .val (.ref b), .val (.int 0)] [])) := c2.trans (by
      refine XS.icmpNo X0.here hexec rfl (hb hbytes d4) rfl (ii_ne_f (by rw [hs])) ?_
      refine iconstV X0.here hexec rfl 0 (hb hbytes d7) (by decide) ?_
      refine XS.istoreN X0.here hexec rfl (hb hbytes d8) rfl rfl ?_
      exact Steps.refl _)
    have loop : ∀ (r i : Nat), i + r = A.slots.size → (∀ j, j < i → yv A j = yv B j) → Steps p.tables e below (s₁.setTop (entryFrame m #[.ref a, .ref b] 3)) (s₁.setTop (mkF m 9 #[.val (.ref a), .val (.ref b), .val (.int (Int32.ofNat i))] [])) → ∃ (pc : Nat) (Ls : Array Slot) (v : Int32), (pc = 25 ∨ pc = 33) ∧ ((v = 1 ∧ EqC A B) ∨ (v = 0 ∧ ¬ EqC A B)) ∧ Steps p.tables e below (s₁.setTop (entryFrame m #[.ref a, .ref b] 3)) (s₁.setTop (mkF m pc Ls [.int v])) := by
      intro r
      induction r with
      | zero =>
        intro i hi he cl
        exact ⟨33, _, 1, Or.inr rfl, Or.inl ⟨rfl, hs, fun j hj => he j (by omega)⟩, cl.trans (by
          refine XS.iloadN X0.here hexec rfl (hb hbytes d9) rfl ?_
          refine XS.aloadN X0.here hexec rfl (hb hbytes d10) rfl rfl ?_
          refine X0.alen hexec hA0 rfl rfl (hb hbytes d11) ?_
          refine XS.icmpYes X0.here hexec rfl (pc0 := 12) rfl (hb hbytes d12) rfl (ii_ge_t (nlt32 (by omega) (by omega))) (by decide) rfl ?_
          refine iconstV X0.here hexec rfl 1 (hb hbytes d32) (by decide) ?_
          exact Steps.refl _)⟩
      | succ r ih =>
        intro i hi he cl
        have c4 : Steps p.tables e below (s₁.setTop (entryFrame m #[.ref a, .ref b] 3)) (s₁.setTop (mkF m 21 #[.val (.ref a), .val (.ref b), .val (.int (Int32.ofNat i))] [.int (yv B i), .int (yv A i)])) := cl.trans (by
          refine XS.iloadN X0.here hexec rfl (hb hbytes d9) rfl ?_
          refine XS.aloadN X0.here hexec rfl (hb hbytes d10) rfl rfl ?_
          refine X0.alen hexec hA0 rfl rfl (hb hbytes d11) ?_
          refine XS.icmpNo X0.here hexec rfl (hb hbytes d12) rfl (ii_ge_f (lt32 (by omega) (by omega))) ?_
          refine XS.aloadN X0.here hexec rfl (hb hbytes d15) rfl rfl ?_
          refine XS.iloadN X0.here hexec rfl (hb hbytes d16) rfl ?_
          refine X0.aget hexec hA0 rfl (yv_get hA tA (i := i) (by omega)) rfl rfl (hb hbytes d17) ?_
          refine XS.aloadN X0.here hexec rfl (hb hbytes d18) rfl rfl ?_
          refine XS.iloadN X0.here hexec rfl (hb hbytes d19) rfl ?_
          refine X0.aget hexec hB0 rfl (yv_get hB tB (i := i) (by omega)) rfl rfl (hb hbytes d20) ?_
          exact Steps.refl _)
        by_cases hv : yv A i = yv B i
        · have c5 : Steps p.tables e below (s₁.setTop (entryFrame m #[.ref a, .ref b] 3)) (s₁.setTop (mkF m 9 #[.val (.ref a), .val (.ref b), .val (.int (Int32.ofNat i + 1))] [])) := c4.trans (by
            refine XS.icmpYes X0.here hexec rfl (pc0 := 21) rfl (hb hbytes d21) rfl (ii_eq_t hv) (by decide) rfl ?_
            refine iincV X0.here hexec rfl 1 (hb hbytes d26) (by decide) rfl rfl ?_
            refine XS.goto X0.here hexec rfl (pc0 := 29) rfl (hb hbytes d29) (by decide) rfl ?_
            exact Steps.refl _)
          rw [succ32] at c5
          exact ih (i + 1) (by omega) (fun j hj => by
            by_cases e : j = i
            · rw [e]; exact hv
            · exact he j (by omega)) c5
        · exact ⟨25, _, 0, Or.inl rfl, Or.inr ⟨rfl, fun q => hv (q.2 i (by omega))⟩, c4.trans (by
            refine XS.icmpNo X0.here hexec rfl (hb hbytes d21) rfl (ii_eq_f hv) ?_
            refine iconstV X0.here hexec rfl 0 (hb hbytes d24) (by decide) ?_
            exact Steps.refl _)⟩
    obtain ⟨pc, Ls, v, hpc, hv, cz⟩ := loop A.slots.size 0 (by omega) (fun j hj => absurd hj (Nat.not_lt_zero j)) c3
    have nv : narrow .boolean (.int v) = .int v := by rcases hv with ⟨rfl, -⟩ | ⟨rfl, -⟩ <;> rfl
    rcases hpc with rfl | rfl
    · exact ⟨s₁, some (.int v), _, _, _, X0, rfl, rfl, rfl, (fun h => by cases h), ⟨v, rfl, hh0, hv⟩, fun fs hl => cz.trans (X0.ireturnOut hexec hret nv (Or.inr (Or.inl rfl)) (hb hbytes d25) hl)⟩
    · exact ⟨s₁, some (.int v), _, _, _, X0, rfl, rfl, rfl, (fun h => by cases h), ⟨v, rfl, hh0, hv⟩, fun fs hl => cz.trans (X0.ireturnOut hexec hret nv (Or.inr (Or.inl rfl)) (hb hbytes d33) hl)⟩
  · have c3 : Steps p.tables e below (s₁.setTop (entryFrame m #[.ref a, .ref b] 3)) (s₁.setTop (mkF m 35 #[.val (.ref a), .val (.ref b), .unset] [.int 0])) := c2.trans (by
      refine XS.icmpYes X0.here hexec rfl (pc0 := 4) rfl (hb hbytes d4) rfl (ii_ne_t (ne32 a31 b31 hs)) (by decide) rfl ?_
      refine iconstV X0.here hexec rfl 0 (hb hbytes d34) (by decide) ?_
      exact Steps.refl _)
    exact ⟨s₁, some (.int 0), _, _, _, X0, rfl, rfl, rfl, (fun h => by cases h), ⟨0, rfl, hh0, Or.inr ⟨rfl, fun q => hs q.1⟩⟩, fun fs hl => c3.trans (X0.ireturnOut hexec hret rfl (Or.inr (Or.inl rfl)) (hb hbytes d35) hl)⟩
end LEq
theorem Cod.ty {cd : Int32} {n : Nat} {f : Nat → Int32} {V : Cell} (h : Cod cd n f V) : Typed .byte V := fun i v hv => by
  have hi : i < V.slots.size := (Array.getElem?_eq_some_iff.mp hv).1
  rcases h with ⟨-, k1, k2⟩ | ⟨-, k1, k2, -⟩
  · rw [(k2 i (by omega)).1] at hv; cases hv; exact fits_lo8 _
  · rcases Nat.mod_two_eq_zero_or_one i with e | e
    · obtain ⟨j, rfl⟩ : ∃ j, i = 2 * j := ⟨i / 2, by omega⟩
      rw [(k2 j (by omega)).1] at hv; cases hv; exact fits_lo8 _
    · obtain ⟨j, rfl⟩ : ∃ j, i = 2 * j + 1 := ⟨i / 2, by omega⟩
      rw [(k2 j (by omega)).2] at hv; cases hv; exact fits_lo8 _
/-- the same text -/
def SameT (n : Nat) (f : Nat → Int32) (k : Nat) (g : Nat → Int32) : Prop := n = k ∧ ∀ j, j < n → f j = g j
theorem lo8_inj {x y : Int32} (h0 : ¬ x < 0) (h1 : ¬ 255 < x) (k0 : ¬ y < 0) (k1 : ¬ 255 < y) (h : lo8 x = lo8 y) : x = y := by
  rw [← lo8_mask h0 h1, ← lo8_mask k0 k1, h]
/-- arrays coded by one coder are equal just where the texts are -/
theorem Cod.eqv {cd : Int32} {n k : Nat} {f g : Nat → Int32} {V V' : Cell} (h : Cod cd n f V) (h' : Cod cd k g V') (hf : ∀ j, j < n → ¬ f j < 0 ∧ ¬ 65535 < f j) (hg : ∀ j, j < k → ¬ g j < 0 ∧ ¬ 65535 < g j) : EqC V V' ↔ SameT n f k g := by
  have yvv : ∀ {W : Cell} {i : Nat} {x : Int32}, W.slots[i]? = some (.int x) → yv W i = x := fun q => by unfold yv; rw [q]
  rcases h with ⟨rfl, k1, k2⟩ | ⟨rfl, k1, k2, -⟩
  · rcases h' with ⟨-, m1, m2⟩ | ⟨e, -⟩
    · constructor
      · rintro ⟨e1, e2⟩
        refine ⟨by omega, fun j hj => ?_⟩
        have q := e2 j (by omega)
        rw [yvv (k2 j hj).1, yvv (m2 j (by omega)).1] at q
        exact lo8_inj (hf j hj).1 (k2 j hj).2 (hg j (by omega)).1 (m2 j (by omega)).2 q
      · rintro ⟨rfl, e2⟩
        refine ⟨by omega, fun j hj => ?_⟩
        rw [yvv (k2 j (by omega)).1, yvv (m2 j (by omega)).1, e2 j (by omega)]
    · exact absurd e (by decide)
  · rcases h' with ⟨e, -⟩ | ⟨-, m1, m2, -⟩
    · exact absurd e (by decide)
    · constructor
      · rintro ⟨e1, e2⟩
        refine ⟨by omega, fun j hj => ?_⟩
        have q1 := e2 (2 * j) (by omega)
        have q2 := e2 (2 * j + 1) (by omega)
        rw [yvv (k2 j hj).1, yvv (m2 j (by omega)).1] at q1
        rw [yvv (k2 j hj).2, yvv (m2 j (by omega)).2] at q2
        rw [← pair_says (hf j hj).1 (hf j hj).2, ← pair_says (hg j (by omega)).1 (hg j (by omega)).2, q1, q2]
      · rintro ⟨rfl, e2⟩
        refine ⟨by omega, fun i hi => ?_⟩
        rcases Nat.mod_two_eq_zero_or_one i with e | e
        · obtain ⟨j, rfl⟩ : ∃ j, i = 2 * j := ⟨i / 2, by omega⟩
          rw [yvv (k2 j (by omega)).1, yvv (m2 j (by omega)).1, e2 j (by omega)]
        · obtain ⟨j, rfl⟩ : ∃ j, i = 2 * j + 1 := ⟨i / 2, by omega⟩
          rw [yvv (k2 j (by omega)).2, yvv (m2 j (by omega)).2, e2 j (by omega)]
/-- two codings differ: so do the texts -/
theorem Cod.dif {cd cd' : Int32} {n k : Nat} {f g : Nat → Int32} {V V' : Cell} (h : Cod cd n f V) (h' : Cod cd' k g V') (hne : ¬ cd = cd') : ¬ SameT n f k g := by
  rintro ⟨rfl, e⟩
  rcases h with ⟨rfl, -, k2⟩ | ⟨rfl, -, -, j, hj, hw⟩
  · rcases h' with ⟨rfl, -⟩ | ⟨-, -, -, j, hj, hw⟩
    · exact hne rfl
    · exact (k2 j hj).2 (by rw [e j hj]; exact hw)
  · rcases h' with ⟨-, -, m2⟩ | ⟨rfl, -⟩
    · exact (m2 j hj).2 (by rw [← e j hj]; exact hw)
    · exact hne rfl
/-- an object of exactly C is an instance of C -/
theorem cinst {p : Program} {l : Launch} {e : Env} {R : Room} {s : State} {m : MethodId} {args : Array Value} {below : List Frame} {meth : Method} {c : Code} {T : State} {locs : List Loc} {cells slots : Nat} (X : Stand p l e R s m args below meth c T locs cells slots) (hexec : p.tables.exec = Jvm.exec) {own C : String} {index : Nat} (hown : s.vm.findClass own = some m.cls) (hlink : (Cond.classLink own index C).before args s = true) {a : Addr} (hE : Exact C a T)
    {g : JFrame} (hg : g.method = m) {rest : List Value} (hstack : g.stack = .ref a :: rest) (hdg : decode c.code g.pc = .ok (.instanceof index, 3)) :
    ∃ T', Stand p l e R s m args below meth c T' locs cells slots ∧ T'.heap = T.heap ∧ ∀ target, Steps p.tables e below (T'.setTop { g with pc := g.pc + 3, stack := .int 1 :: rest }) target → Steps p.tables e below (T.setTop g) target := by
  obtain ⟨cB, h1, D, h2, h3, h4⟩ := hE
  have h1' : s.vm.findClass C = some cB := by rw [← X.warmed.alike.findClass]; exact h1
  obtain ⟨vm', X', st⟩ := X.instanceofYes hexec hown hlink h2 h4 h1' (by rw [h3]; exact Jvm.Free.SB.assignable_self _ _) hg hstack hdg
  exact ⟨_, X', rfl, st⟩
theorem cself {p : Program} {l : Launch} {e : Env} {R : Room} {s : State} {m : MethodId} {args : Array Value} {below : List Frame} {meth : Method} {c : Code} {T : State} {locs : List Loc} {cells slots : Nat} (X : Stand p l e R s m args below meth c T locs cells slots) (hexec : p.tables.exec = Jvm.exec) {own C : String} {index : Nat} (hown : s.vm.findClass own = some m.cls) (hlink : (Cond.classLink own index C).before args s = true) {a : Addr} (hE : Exact C a T)
    {g : JFrame} (hg : g.method = m) {rest : List Value} (hstack : g.stack = .ref a :: rest) (hdg : decode c.code g.pc = .ok (.checkcast index, 3)) :
    ∃ T', Stand p l e R s m args below meth c T' locs cells slots ∧ T'.heap = T.heap ∧ ∀ target, Steps p.tables e below (T'.setTop { g with pc := g.pc + 3, stack := .ref a :: rest }) target → Steps p.tables e below (T.setTop g) target := by
  obtain ⟨cB, h1, D, h2, h3, h4⟩ := hE
  have h1' : s.vm.findClass C = some cB := by rw [← X.warmed.alike.findClass]; exact h1
  obtain ⟨vm', X', st⟩ := X.checkcastYes hexec hown hlink h2 h4 h1' (by rw [h3]; exact Jvm.Free.SB.assignable_self _ _) hg hstack hdg
  exact ⟨_, X', rfl, fun t h => st t (by rw [← hstack] at h; exact h)⟩
namespace SEq
def yN : MethodName := ⟨"java/lang/String", "equals", "(Ljava/lang/Object;)Z"⟩
abbrev yB : ByteArray := jdk_42_method_66_code
theorem d0 : decode yB 0 = .ok (.aload_n 0, 1) := by decide +kernel
theorem d1 : decode yB 1 = .ok (.aload_n 1, 1) := by decide +kernel
theorem d2 : decode yB 2 = .ok (.if_acmp (.ne) 5, 3) := by decide +kernel
theorem d5 : decode yB 5 = .ok (.iconst 1, 1) := by decide +kernel
theorem d6 : decode yB 6 = .ok (.ireturn, 1) := by decide +kernel
theorem d7 : decode yB 7 = .ok (.aload_n 1, 1) := by decide +kernel
theorem d8 : decode yB 8 = .ok (.instanceof 10, 3) := by decide +kernel
theorem d11 : decode yB 11 = .ok (.ifCond (.eq) 43, 3) := by decide +kernel
theorem d14 : decode yB 14 = .ok (.aload_n 1, 1) := by decide +kernel
theorem d15 : decode yB 15 = .ok (.checkcast 10, 3) := by decide +kernel
theorem d18 : decode yB 18 = .ok (.astore_n 2, 1) := by decide +kernel
theorem d19 : decode yB 19 = .ok (.getstatic 38, 3) := by decide +kernel
theorem d22 : decode yB 22 = .ok (.ifCond (.eq) 14, 3) := by decide +kernel
theorem d25 : decode yB 25 = .ok (.aload_n 0, 1) := by decide +kernel
theorem d26 : decode yB 26 = .ok (.getfield 15, 3) := by decide +kernel
theorem d29 : decode yB 29 = .ok (.aload_n 2, 1) := by decide +kernel
theorem d30 : decode yB 30 = .ok (.getfield 15, 3) := by decide +kernel
theorem d33 : decode yB 33 = .ok (.if_icmp (.ne) 21, 3) := by decide +kernel
theorem d36 : decode yB 36 = .ok (.aload_n 0, 1) := by decide +kernel
theorem d37 : decode yB 37 = .ok (.getfield 9, 3) := by decide +kernel
theorem d40 : decode yB 40 = .ok (.aload_n 2, 1) := by decide +kernel
theorem d41 : decode yB 41 = .ok (.getfield 9, 3) := by decide +kernel
theorem d44 : decode yB 44 = .ok (.invokestatic 541, 3) := by decide +kernel
theorem d47 : decode yB 47 = .ok (.ifCond (.eq) 7, 3) := by decide +kernel
theorem d50 : decode yB 50 = .ok (.iconst 1, 1) := by decide +kernel
theorem d51 : decode yB 51 = .ok (.goto 4, 3) := by decide +kernel
theorem d54 : decode yB 54 = .ok (.iconst 0, 1) := by decide +kernel
theorem d55 : decode yB 55 = .ok (.ireturn, 1) := by decide +kernel
def site : List Cond := [.classLink "java/lang/String" 10 "java/lang/String", .fieldLink "java/lang/String" 38 "java/lang/String" "COMPACT_STRINGS" "Z", .fieldLink "java/lang/String" 15 "java/lang/String" "coder" "B", .fieldLink "java/lang/String" 9 "java/lang/String" "value" "[B", LEq.tab] ++ staticW "java/lang/String" 541 LEq.yN
def tab : Cond := tabOf yN yB 3 (some .boolean) site
def P (x t : Addr) (V : Cell) (cd : Int32) (n : Nat) (f : Nat → Int32) (y t' : Addr) (V' : Cell) (cd' : Int32) (k : Nat) (g : Nat → Int32) (z : Int32) (args : Array Value) (s : State) : Prop := args = #[.ref x, .ref y] ∧ Txt x t V cd n f s ∧ Txt y t' V' cd' k g s ∧ StaticIs s "java/lang/String" "COMPACT_STRINGS" "Z" (.int z) ∧ ¬ z = 0
/-- equals(Object) of two Strings: whether the texts are the same -/
theorem law (l : Launch) (x t : Addr) (V : Cell) (cd : Int32) (n : Nat) (f : Nat → Int32) (y t' : Addr) (V' : Cell) (cd' : Int32) (k : Nat) (g : Nat → Int32) (z : Int32) : Law l yN 2 1 1 14 yB 3 (some .boolean) site (P x t V cd n f y t' V' cd' k g z) (Says01 (SameT n f k g)) [] 0 0 := by
  refine Law.of_walk (plainFor_of_name (by decide +kernel)) (by decide +kernel) (by decide +kernel) (by decide) (fun _ _ h => by rw [h.1]; rfl) (fun _ U U' hal hh h => ⟨h.1, h.2.1.mv hal hh, h.2.2.1.mv hal hh, h.2.2.2.1.there hal hh, h.2.2.2.2⟩) (fun r U U' V V' h1 hal h2 h => Says01.mv r U U' V V' h1 hal h2 h) ?_
  intro p e s m args below meth c s₁ X0 hexec hbytes hml hret hlk hnm hown hh0 W hP
  obtain ⟨rfl, hx, hy, s1, hz⟩ := hP
  have c1 : Steps p.tables e below (s₁.setTop (entryFrame m #[.ref x, .ref y] 3)) (s₁.setTop (mkF m 2 #[.val (.ref x), .val (.ref y), .unset] [.ref y, .ref x])) := Steps.trans (entry rfl) (by
    show Steps p.tables e below (s₁.setTop (mkF m 0 #[.val (.ref x), .val (.ref y), .unset] [])) _
    refine XS.aloadN X0.here hexec rfl (hb hbytes d0) rfl rfl ?_
    refine XS.aloadN X0.here hexec rfl (hb hbytes d1) rfl rfl ?_
    exact Steps.refl _)
  by_cases hxy : x = y
  · have c2 : Steps p.tables e below (s₁.setTop (entryFrame m #[.ref x, .ref y] 3)) (s₁.setTop (mkF m 6 #[.val (.ref x), .val (.ref y), .unset] [.int 1])) := c1.trans (by
      refine acmpNo X0.here hexec rfl (hb hbytes d2) rfl rfl rfl (by simp [acmp, hxy]) ?_
      refine iconstV X0.here hexec rfl 1 (hb hbytes d5) (by decide) ?_
      exact Steps.refl _)
    subst hxy
    have ec : cd = cd' := by
      obtain ⟨D, fd, a1, a2, a3⟩ := hx.2.2.1
      obtain ⟨D', fd', b1, b2, b3⟩ := hy.2.2.1
      cases a1.symm.trans b1
      obtain ⟨q1, q2, q3, q4⟩ := a2.1
      obtain ⟨r1, r2, r3, r4⟩ := b2.1
      cases q4.symm.trans r4
      cases a3.symm.trans b3; rfl
    have et : t = t' := by
      obtain ⟨D, fd, a1, a2, a3⟩ := hx.2.1
      obtain ⟨D', fd', b1, b2, b3⟩ := hy.2.1
      cases a1.symm.trans b1
      obtain ⟨q1, q2, q3, q4⟩ := a2.1
      obtain ⟨r1, r2, r3, r4⟩ := b2.1
      cases q4.symm.trans r4
      cases a3.symm.trans b3; rfl
    subst ec et
    have ev : V = V' := by cases hx.2.2.2.1.1.symm.trans hy.2.2.2.1.1; rfl
    subst ev
    have hs : SameT n f k g := (Cod.eqv hx.2.2.2.2.1 hy.2.2.2.2.1 hx.2.2.2.2.2 hy.2.2.2.2.2).mp ⟨rfl, fun _ _ => rfl⟩
    exact ⟨s₁, some (.int 1), _, _, _, X0, rfl, rfl, rfl, (fun h => by cases h), ⟨1, rfl, hh0, Or.inl ⟨rfl, hs⟩⟩, fun fs hl => c2.trans (X0.ireturnOut hexec hret rfl (Or.inr (Or.inl rfl)) (hb hbytes d6) hl)⟩
  · have c2 : Steps p.tables e below (s₁.setTop (entryFrame m #[.ref x, .ref y] 3)) (s₁.setTop (mkF m 8 #[.val (.ref x), .val (.ref y), .unset] [.ref y])) := c1.trans (by
      refine acmpYes X0.here hexec rfl (pc0 := 2) rfl (hb hbytes d2) rfl rfl rfl (by simp [acmp, hxy]) (by decide) rfl ?_
      refine XS.aloadN X0.here hexec rfl (hb hbytes d7) rfl rfl ?_
      exact Steps.refl _)
    obtain ⟨T3, X3, q3, st3⟩ := cinst X0 hexec hown (wk W (.classLink "java/lang/String" 10 "java/lang/String")) (hy.mv X0.warmed.alike hh0).1 (g := (mkF m 8 #[.val (.ref x), .val (.ref y), .unset] [.ref y])) rfl (rest := []) rfl (hb hbytes d8)
    have hh3 := q3.trans hh0
    have c4 : Steps p.tables e below (s₁.setTop (entryFrame m #[.ref x, .ref y] 3)) (T3.setTop (mkF m 15 #[.val (.ref x), .val (.ref y), .unset] [.ref y])) := (c2.trans (st3 _ (Steps.refl _))).trans (by
      refine XS.ifNo X3.here hexec rfl (hb hbytes d11) rfl (i0_eq_f (by decide)) ?_
      refine XS.aloadN X3.here hexec rfl (hb hbytes d14) rfl rfl ?_
      exact Steps.refl _)
    obtain ⟨T5, X5, q5, st5⟩ := cself X3 hexec hown (wk W (.classLink "java/lang/String" 10 "java/lang/String")) (hy.mv X3.warmed.alike hh3).1 (g := (mkF m 15 #[.val (.ref x), .val (.ref y), .unset] [.ref y])) rfl (rest := []) rfl (hb hbytes d15)
    have hh5 := q5.trans hh3
    have c6 : Steps p.tables e below (s₁.setTop (entryFrame m #[.ref x, .ref y] 3)) (T5.setTop (mkF m 19 #[.val (.ref x), .val (.ref y), .val (.ref y)] [])) := (c4.trans (st5 _ (Steps.refl _))).trans (by
      refine XS.astoreN X5.here hexec rfl (hb hbytes d18) rfl rfl rfl ?_
      exact Steps.refl _)
    obtain ⟨T7, X7, q7, st7⟩ := X5.sget hexec hown (wk W (.fieldLink "java/lang/String" 38 "java/lang/String" "COMPACT_STRINGS" "Z")) s1 (fun _ _ h => by rw [hh5]; exact h) (g := (mkF m 19 #[.val (.ref x), .val (.ref y), .val (.ref y)] [])) rfl (hb hbytes d19)
    have hh7 := q7.trans hh5
    have c8 : Steps p.tables e below (s₁.setTop (entryFrame m #[.ref x, .ref y] 3)) (T7.setTop (mkF m 26 #[.val (.ref x), .val (.ref y), .val (.ref y)] [.ref x])) := (c6.trans (st7 _ (Steps.refl _))).trans (by
      refine XS.ifNo X7.here hexec rfl (hb hbytes d22) rfl (i0_eq_f hz) ?_
      refine XS.aloadN X7.here hexec rfl (hb hbytes d25) rfl rfl ?_
      exact Steps.refl _)
    obtain ⟨T9, X9, q9, st9⟩ := X7.hget hexec hown (wk W (.fieldLink "java/lang/String" 15 "java/lang/String" "coder" "B")) (hx.mv X7.warmed.alike hh7).2.2.1 (g := (mkF m 26 #[.val (.ref x), .val (.ref y), .val (.ref y)] [.ref x])) rfl (rest := []) rfl (hb hbytes d26)
    have hh9 := q9.trans hh7
    have c10 : Steps p.tables e below (s₁.setTop (entryFrame m #[.ref x, .ref y] 3)) (T9.setTop (mkF m 30 #[.val (.ref x), .val (.ref y), .val (.ref y)] [.ref y, .int cd])) := (c8.trans (st9 _ (Steps.refl _))).trans (by
      refine XS.aloadN X9.here hexec rfl (hb hbytes d29) rfl rfl ?_
      exact Steps.refl _)
    obtain ⟨T11, X11, q11, st11⟩ := X9.hget hexec hown (wk W (.fieldLink "java/lang/String" 15 "java/lang/String" "coder" "B")) (hy.mv X9.warmed.alike hh9).2.2.1 (g := (mkF m 30 #[.val (.ref x), .val (.ref y), .val (.ref y)] [.ref y, .int cd])) rfl (rest := [.int cd]) rfl (hb hbytes d30)
    have hh11 := q11.trans hh9
    have c12 : Steps p.tables e below (s₁.setTop (entryFrame m #[.ref x, .ref y] 3)) (T11.setTop (mkF m 33 #[.val (.ref x), .val (.ref y), .val (.ref y)] [.int cd', .int cd])) := c10.trans (st11 _ (Steps.refl _))
    by_cases hcd : cd = cd'
    · subst hcd
      have c13 : Steps p.tables e below (s₁.setTop (entryFrame m #[.ref x, .ref y] 3)) (T11.setTop (mkF m 37 #[.val (.ref x), .val (.ref y), .val (.ref y)] [.ref x])) := c12.trans (by
        refine XS.icmpNo X11.here hexec rfl (hb hbytes d33) rfl (ii_ne_f rfl) ?_
        refine XS.aloadN X11.here hexec rfl (hb hbytes d36) rfl rfl ?_
        exact Steps.refl _)
      obtain ⟨T14, X14, q14, st14⟩ := X11.hget hexec hown (wk W (.fieldLink "java/lang/String" 9 "java/lang/String" "value" "[B")) (hx.mv X11.warmed.alike hh11).2.1 (g := (mkF m 37 #[.val (.ref x), .val (.ref y), .val (.ref y)] [.ref x])) rfl (rest := []) rfl (hb hbytes d37)
      have hh14 := q14.trans hh11
      have c15 : Steps p.tables e below (s₁.setTop (entryFrame m #[.ref x, .ref y] 3)) (T14.setTop (mkF m 41 #[.val (.ref x), .val (.ref y), .val (.ref y)] [.ref y, .ref t])) := (c13.trans (st14 _ (Steps.refl _))).trans (by
        refine XS.aloadN X14.here hexec rfl (hb hbytes d40) rfl rfl ?_
        exact Steps.refl _)
      obtain ⟨T16, X16, q16, st16⟩ := X14.hget hexec hown (wk W (.fieldLink "java/lang/String" 9 "java/lang/String" "value" "[B")) (hy.mv X14.warmed.alike hh14).2.1 (g := (mkF m 41 #[.val (.ref x), .val (.ref y), .val (.ref y)] [.ref y, .ref t])) rfl (rest := [.ref t]) rfl (hb hbytes d41)
      have hh16 := q16.trans hh14
      have c17 : Steps p.tables e below (s₁.setTop (entryFrame m #[.ref x, .ref y] 3)) (T16.setTop (mkF m 44 #[.val (.ref x), .val (.ref y), .val (.ref y)] [.ref t', .ref t])) := c15.trans (st16 _ (Steps.refl _))
      obtain ⟨v18, T18, X18, E18, g18⟩ := X16.callS hexec (LEq.law l t V t' V') hown (wks W (staticW "java/lang/String" 541 LEq.yN)) (wk W LEq.tab) (W := 0) (Nat.le_of_ble_eq_true rfl) (Nat.le_of_ble_eq_true rfl) (Nat.le_refl _) (Nat.le_refl _) (g := (mkF m 44 #[.val (.ref x), .val (.ref y), .val (.ref y)] [.ref t', .ref t])) rfl (by rw [hml]; rfl) c17 (argsL := [.ref t, .ref t']) (rest := []) rfl rfl (by show 2 * 0 + 0 ≤ _; decide) (hb hbytes d44) (⟨rfl, hx.2.2.2.1.mv X16.warmed.alike hh16, hx.2.2.2.2.1.ty, hy.2.2.2.1.mv X16.warmed.alike hh16, hy.2.2.2.2.1.ty⟩)
      obtain ⟨v, rfl, q18, hv⟩ := E18
      have iff := Cod.eqv hx.2.2.2.2.1 hy.2.2.2.2.1 hx.2.2.2.2.2 hy.2.2.2.2.2
      rcases hv with ⟨rfl, he⟩ | ⟨rfl, he⟩
      · have c19 : Steps p.tables e below (s₁.setTop (entryFrame m #[.ref x, .ref y] 3)) (T18.setTop (mkF m 55 #[.val (.ref x), .val (.ref y), .val (.ref y)] [.int 1])) := Steps.trans g18 (by
          refine XS.ifNo X18.here hexec rfl (hb hbytes d47) rfl (i0_eq_f (by decide)) ?_
          refine iconstV X18.here hexec rfl 1 (hb hbytes d50) (by decide) ?_
          refine XS.goto X18.here hexec rfl (pc0 := 51) rfl (hb hbytes d51) (by decide) rfl ?_
          exact Steps.refl _)
        exact ⟨T18, some (.int 1), _, _, _, X18, rfl, rfl, rfl, (fun h => by cases h), ⟨1, rfl, q18.trans hh16, Or.inl ⟨rfl, iff.mp he⟩⟩, fun fs hl => c19.trans (X18.ireturnOut hexec hret rfl (Or.inr (Or.inl rfl)) (hb hbytes d55) hl)⟩
      · have c19 : Steps p.tables e below (s₁.setTop (entryFrame m #[.ref x, .ref y] 3)) (T18.setTop (mkF m 55 #[.val (.ref x), .val (.ref y), .val (.ref y)] [.int 0])) := Steps.trans g18 (by
          refine XS.ifYes X18.here hexec rfl (pc0 := 47) rfl (hb hbytes d47) rfl (i0_eq_t rfl) (by decide) rfl ?_
          refine iconstV X18.here hexec rfl 0 (hb hbytes d54) (by decide) ?_
          exact Steps.refl _)
        exact ⟨T18, some (.int 0), _, _, _, X18, rfl, rfl, rfl, (fun h => by cases h), ⟨0, rfl, q18.trans hh16, Or.inr ⟨rfl, fun q => he (iff.mpr q)⟩⟩, fun fs hl => c19.trans (X18.ireturnOut hexec hret rfl (Or.inr (Or.inl rfl)) (hb hbytes d55) hl)⟩
    · have c13 : Steps p.tables e below (s₁.setTop (entryFrame m #[.ref x, .ref y] 3)) (T11.setTop (mkF m 55 #[.val (.ref x), .val (.ref y), .val (.ref y)] [.int 0])) := c12.trans (by
        refine XS.icmpYes X11.here hexec rfl (pc0 := 33) rfl (hb hbytes d33) rfl (ii_ne_t hcd) (by decide) rfl ?_
        refine iconstV X11.here hexec rfl 0 (hb hbytes d54) (by decide) ?_
        exact Steps.refl _)
      exact ⟨T11, some (.int 0), _, _, _, X11, rfl, rfl, rfl, (fun h => by cases h), ⟨0, rfl, hh11, Or.inr ⟨rfl, Cod.dif hx.2.2.2.2.1 hy.2.2.2.2.1 hcd⟩⟩, fun fs hl => c13.trans (X11.ireturnOut hexec hret rfl (Or.inr (Or.inl rfl)) (hb hbytes d55) hl)⟩
theorem pays {l : Launch} {R : Room} {p : Program} {e : Env} {below : List Frame} {s : State} {sargs : Array Value} {len W : Nat} (x t : Addr) (V : Cell) (cd : Int32) (n : Nat) (f : Nat → Int32) (y t' : Addr) (V' : Cell) (cd' : Int32) (k : Nat) (g : Nat → Int32) (z : Int32) (htab : tab.before sargs s = true) (hfr : 2 ≤ R.frames) (hlo : W + 28 ≤ R.locals) :
    Back l R p e below s sargs yN len W (fun A₁ a₁ => A₁.cells + 0 ≤ R.cells ∧ A₁.slots + 0 ≤ R.slots ∧ P x t V cd n f y t' V' cd' k g z a₁ A₁.U) (fun A₁ _ v₁ B₁ => Says01 (SameT n f k g) v₁ A₁.U B₁.U ∧ B₁.locs = A₁.locs ++ [] ∧ B₁.cells = A₁.cells + 0 ∧ B₁.slots = A₁.slots + 0) :=
  (law l x t V cd n f y t' V' cd' k g z).pays htab hfr (by omega)
end SEq
end StrChars
namespace StrChars.Road
open Jvm Sem ClassFile Op Lib Jvm.Stand Jvm.Free Jvm.Free.XT
open Jvm.Lib.Cold (StaticIs)
/-- the words of String.equals(Object) -/
abbrev wordsEq : List Jvm.Cond := [.code SEq.yN SEq.yB 3 (some .boolean), .initialized ST, .classLink ST 10 ST, .fieldLink ST 38 ST "COMPACT_STRINGS" "Z", .fieldLink ST 15 ST "coder" "B", .fieldLink ST 9 ST "value" "[B", .methodLink ST 541 LEq.yN, .static LEq.yN, .code LEq.yN LEq.yB 3 (some .boolean), .initialized "java/lang/StringLatin1"]
theorem tabEq_of {a : Array Value} {s : State} (h : ∀ w ∈ wordsEq, w.before a s = true) : SEq.tab.before a s = true := by
  have hl : LEq.tab.before a s = true := unparts (wk h (.code LEq.yN LEq.yB 3 (some .boolean))) (wks h (.initialized LEq.yN.cls :: LEq.site))
  have q := consq hl h
  exact unparts (wk q (.code SEq.yN SEq.yB 3 (some .boolean))) (wks q (.initialized SEq.yN.cls :: SEq.site))
theorem movedEq {Z s : State} {a0 args : Array Value} (hZ : Z.Warmed39 s.vm) (hw : ∀ d ∈ wordsEq, d.before a0 Z = true) : ∀ d ∈ wordsEq, d.before args s = true := fun d hd => by
  have t : ∀ d ∈ wordsEq, (d.onTables && d.keepsFace) = true := by decide +kernel
  exact RoadKit.mv hZ (hw d hd) (t d hd)
/-- the road's facts of a String, as the laws ask it -/
theorem txt_of {Z U : State} {a0 : Array Value} {kI : Nat} (wi : (Jvm.Cond.instantiable ST kI).before a0 Z = true) (al : Z.vm.Alike U.vm) {x t : Addr} {kb : ClassId} {cs : List Int32} {cd N2 : Int32} {vs : List Value} (E : RoadKit.Exa Z U.heap x ST) (V : RoadKit.Fld Z U.heap x ST "value" "[B" (.ref t)) (C : RoadKit.Fld Z U.heap x ST "coder" "B" (.int cd)) (K : RoadKit.Arv Z U.heap t kb .byte N2 vs (.int 0)) (hc : CodA cs cd N2 vs) (hb : ∀ c ∈ cs, ¬ c < 0 ∧ ¬ (65535 : Int32) < c) (l2 : cs.length ≤ 4000) :
    ∃ A, Txt x t A cd cs.length (fun j => cs.getD j 0) U := by
  obtain ⟨A, K1, K2, K3, K4, K5, K6⟩ := K
  have hcod := hc.cod (by omega) K3 K5
  obtain ⟨D, fV, fC, hB, F1, F2, g1, g2, -, -⟩ := strObj wi al E V C
  exact ⟨A, ⟨_, hB.2.2.1, D, hB.1, rfl, by cases q : D.vm <;> first | rfl | exact absurd q (hB.2.1.2 _)⟩, Has.of hB F1 g1, Has.of hB F2 g2, ⟨K1.1, State.isArrayOf_alike al K1.2.1, K1.2.2, by rcases hcod with ⟨-, q, -⟩ | ⟨-, q, -⟩ <;> omega⟩, hcod, fun j hj => by
    have e : cs.getD j 0 = cs[j] := by simp [List.getD_eq_getElem?_getD, hj]
    show ¬ cs.getD j 0 < 0 ∧ ¬ 65535 < cs.getD j 0
    rw [e]; exact hb _ (List.getElem_mem _)⟩
theorem same_list (cs ds : List Int32) : SameT cs.length (fun j => cs.getD j 0) ds.length (fun j => ds.getD j 0) ↔ cs = ds := by
  constructor
  · rintro ⟨e, q⟩
    refine List.ext_getElem e fun j h1 h2 => ?_
    have := q j h1
    simpa [List.getD_eq_getElem?_getD, h1, h2] using this
  · rintro rfl
    exact ⟨rfl, fun _ _ => rfl⟩
/-- **equals(Object) OF TWO SUCH STRINGS**: 1 just where the chars are the same -/
theorem eqW {p : Program} {l : Launch} {e : Env} {R : Room} {s : State} {args : Array Value} {below : List Frame} {len W : Nat} {Z : State} {a0 : Array Value} {h : Heap} (hZ : Z.Warmed39 s.vm) (hw : ∀ d ∈ wordsEq, d.before a0 Z = true) {kI : Nat} (wi : (Jvm.Cond.instantiable ST kI).before a0 Z = true)
    {x t : Addr} {kb : ClassId} {cs : List Int32} {cd N2 : Int32} {vs : List Value} (E : RoadKit.Exa Z h x ST) (V : RoadKit.Fld Z h x ST "value" "[B" (.ref t)) (C : RoadKit.Fld Z h x ST "coder" "B" (.int cd)) (K : RoadKit.Arv Z h t kb .byte N2 vs (.int 0)) (hc : CodA cs cd N2 vs) (hb : ∀ c ∈ cs, ¬ c < 0 ∧ ¬ (65535 : Int32) < c) (l2 : cs.length ≤ 4000)
    {y t' : Addr} {kb' : ClassId} {ds : List Int32} {cd' N2' : Int32} {vs' : List Value} (E' : RoadKit.Exa Z h y ST) (V' : RoadKit.Fld Z h y ST "value" "[B" (.ref t')) (C' : RoadKit.Fld Z h y ST "coder" "B" (.int cd')) (K' : RoadKit.Arv Z h t' kb' .byte N2' vs' (.int 0)) (hc' : CodA ds cd' N2' vs') (hb' : ∀ c ∈ ds, ¬ c < 0 ∧ ¬ (65535 : Int32) < c) (l2' : ds.length ≤ 4000)
    {z : Int32} (S : RoadKit.Sta Z h ST "COMPACT_STRINGS" "Z" (.int z)) (hz : ¬ z = 0) (hfr : 2 ≤ R.frames) (hlo : W + 28 ≤ R.locals) :
    Back l R p e below s args (⟨"java/lang/String", "equals", "(Ljava/lang/Object;)Z"⟩ : MethodName) len W (fun P a => a = #[.ref x, .ref y] ∧ P.U.heap = h ∧ P.cells + 0 ≤ R.cells ∧ P.slots + 0 ≤ R.slots)
      (fun P _ v B => ∃ L, (((v = some (.int 1) ∧ cs = ds) ∨ (v = some (.int 0) ∧ ¬ cs = ds)) ∧ L = [] ∧ B.U.heap = h) ∧ B.locs = P.locs ++ L ∧ B.cells = P.cells + 0 ∧ B.slots = P.slots + 0) := by
  intro m meth c P g ig mk a X hg hsize hdg hW hn hp'
  obtain ⟨rfl, rfl, r1, r2⟩ := hp'
  have al : Z.vm.Alike P.U.vm := hZ.alike.trans X.warmed.alike
  obtain ⟨A, hx⟩ := txt_of wi al E V C K hc hb l2
  obtain ⟨A', hy⟩ := txt_of wi al E' V' C' K' hc' hb' l2'
  obtain ⟨v, B, X', ⟨⟨w, hv, hh, hq⟩, hl, hk, hs⟩, st⟩ := SEq.pays x t A cd cs.length (fun j => cs.getD j 0) y t' A' cd' ds.length (fun j => ds.getD j 0) z (tabEq_of (movedEq hZ hw)) hfr hlo m meth c P g ig mk _ X hg hsize hdg hW hn ⟨r1, r2, rfl, hx, hy, sta_is al S, hz⟩
  refine ⟨v, B, X', ⟨[], ⟨?_, rfl, hh⟩, hl, hk, hs⟩, st⟩
  rcases hq with ⟨rfl, q⟩ | ⟨rfl, q⟩
  · exact Or.inl ⟨hv, (same_list cs ds).mp q⟩
  · exact Or.inr ⟨hv, fun e => q ((same_list cs ds).mpr e)⟩
end StrChars.Road
namespace StrChars.Road
open Jvm Sem ClassFile Op Lib Jvm.Stand Jvm.Free Jvm.Free.XT
open Jvm.Lib.Cold (StaticIs)
/-- what backV says of its String, as the contracts of this text ask it: cs's low bytes, coder 0 -/
theorem codOf {cs : List Int32} {n : Nat} (hn : cs.length = n) (hb : ∀ c ∈ cs, ¬ 255 < c) : CodA cs 0 (Int32.ofNat n) ((cs.map lo8).map Value.int) := Or.inl ⟨rfl, by rw [hn], by simp [List.map_map, Function.comp_def], hb⟩
end StrChars.Road
end Jvm.Pilot.@@N@@
namespace Jvm.Pilot.@@N@@
open Jvm Jvm.ClassFile Sem Op Lib Jvm.Free Jvm.Stand Jvm.LawKit Jvm.RoadKit Bundle Jvm.Pilot.@@N@@.Jvm.D
/-! the goal that a walk carries along: from this state the run comes to the method's end, and Q holds there -/
def own_G (tb : Tables) (e : Env) (below : List Frame) (s : State) (Q : Option Value → Heap → List Loc → Prop) (kc ks : Nat) (st : State) : Prop :=
  ∃ u o, Steps tb e below st u ∧ u.status = .running ∧ Ended u below o ∧ ∃ v L, o = .returned v ∧ Q v u.heap L ∧ FrameEnd s o u L kc ks
theorem own_in {tb : Tables} {e : Env} {below : List Frame} {s : State} {Q : Option Value → Heap → List Loc → Prop} {kc ks : Nat} {st : State} (h : own_G tb e below s Q kc ks st) :
    ∃ u o, Steps tb e below st u ∧ u.status = .running ∧ Ended u below o ∧ ∃ v L, o = .returned v ∧ Q v u.heap L ∧ FrameEnd s o u L kc ks := h
theorem own_st {tb : Tables} {e : Env} {below : List Frame} {s : State} {Q : Option Value → Heap → List Loc → Prop} {kc ks : Nat} {a b : State} (k : ∀ t, Steps tb e below b t → Steps tb e below a t) (h : own_G tb e below s Q kc ks b) : own_G tb e below s Q kc ks a := by
  obtain ⟨u, o, h1, h2⟩ := h; exact ⟨u, o, k u h1, h2⟩
section OwnRet
variable {p : Program} {l : Launch} {e : Env} {R : Room} {s : State} {m : MethodId} {args : Array Value} {below : List Frame} {meth : Method} {c : Code} {T : State} {locs : List Loc} {cells slots : Nat} {Q : Option Value → Heap → List Loc → Prop} {kc ks : Nat} {pc : Nat} {Ls : Array Slot} {rest : List Value}
theorem own_ret (X : Stand p l e R s m args below meth c T locs cells slots) {v : Option Value} (hv : meth.sig.returnType = none → v = none) (hlk : meth.locks = false) (hc : cells ≤ kc) (hs : slots ≤ ks) (hQ : Q v T.heap locs) {st : State}
    (step : ∀ fs, (∀ (f : JFrame) (acts : List Action), f.method = m → f.locked = none → f.entered = [] → (doReturn e (T.setTop f) acts v).1 = T.setFrames fs) → Steps p.tables e below st (T.setFrames fs)) : own_G p.tables e below s Q kc ks st := by
  obtain ⟨fs, hr, hrun, hended, hW, hsame⟩ := X.leave (v := v) hv hlk
  exact ⟨_, _, step fs hr, hrun, hended, _, _, rfl, hQ, ⟨_, rfl⟩, hW, hsame.mono hc hs⟩
theorem own_retV (X : Stand p l e R s m args below meth c T locs cells slots) (hx : p.tables.exec = Jvm.exec) (hret : meth.sig.returnType = none) (hlk : meth.locks = false) (hd : decode c.code pc = .ok (.return_, 1)) (hc : cells ≤ kc) (hs : slots ≤ ks) (hQ : Q none T.heap locs) : own_G p.tables e below s Q kc ks (T.setTop (mkF m pc Ls [])) :=
  own_ret X (v := none) (fun _ => rfl) hlk hc hs hQ fun _ hr => X.returnOut hx hret hd hr
theorem own_retI {z : Int32} (X : Stand p l e R s m args below meth c T locs cells slots) (hx : p.tables.exec = Jvm.exec) (hret : meth.sig.returnType = some .int) (hlk : meth.locks = false) (hd : decode c.code pc = .ok (.ireturn, 1)) (hc : cells ≤ kc) (hs : slots ≤ ks) (hQ : Q (some (.int z)) T.heap locs) : own_G p.tables e below s Q kc ks (T.setTop (mkF m pc Ls (.int z :: rest))) :=
  own_ret X (v := some (.int z)) (fun h => by rw [hret] at h; cases h) hlk hc hs hQ fun _ hr => retOut X hx hret rfl (Or.inl ⟨rfl, Or.inl rfl, z, rfl⟩) hd hr
theorem own_retJ {z : Int64} (X : Stand p l e R s m args below meth c T locs cells slots) (hx : p.tables.exec = Jvm.exec) (hret : meth.sig.returnType = some .long) (hlk : meth.locks = false) (hd : decode c.code pc = .ok (.lreturn, 1)) (hc : cells ≤ kc) (hs : slots ≤ ks) (hQ : Q (some (.long z)) T.heap locs) : own_G p.tables e below s Q kc ks (T.setTop (mkF m pc Ls (.long z :: rest))) :=
  own_ret X (v := some (.long z)) (fun h => by rw [hret] at h; cases h) hlk hc hs hQ fun _ hr => retOut X hx hret rfl (Or.inr (Or.inl ⟨rfl, rfl, z, rfl⟩)) hd hr
theorem own_retA {ft : FieldType} {w : Value} (ht : ft.isReference = true) (hw : w.isRef = true) (X : Stand p l e R s m args below meth c T locs cells slots) (hx : p.tables.exec = Jvm.exec) (hret : meth.sig.returnType = some ft) (hlk : meth.locks = false) (hd : decode c.code pc = .ok (.areturn, 1)) (hc : cells ≤ kc) (hs : slots ≤ ks) (hQ : Q (some w) T.heap locs) : own_G p.tables e below s Q kc ks (T.setTop (mkF m pc Ls (w :: rest))) :=
  own_ret X (v := some w) (fun h => by rw [hret] at h; cases h) hlk hc hs hQ fun _ hr => retOut X hx hret (by cases ft <;> first | (cases ht; done) | (cases w <;> first | rfl | cases hw)) (Or.inr (Or.inr (Or.inr (Or.inr ⟨rfl, ht, hw⟩)))) hd hr
theorem own_retN {t : FieldType} {z : Int32} (ht : t = .boolean ∨ t = .byte ∨ t = .char ∨ t = .short) (X : Stand p l e R s m args below meth c T locs cells slots) (hx : p.tables.exec = Jvm.exec) (hret : meth.sig.returnType = some t) (hlk : meth.locks = false) (hd : decode c.code pc = .ok (.ireturn, 1)) (hc : cells ≤ kc) (hs : slots ≤ ks) (hQ : Q (some (.int (nar t z))) T.heap locs) : own_G p.tables e below s Q kc ks (T.setTop (mkF m pc Ls (.int z :: rest))) :=
  own_ret X (v := some (.int (nar t z))) (fun h => by rw [hret] at h; cases h) hlk hc hs hQ fun _ hr => retN X hx hret ht hd hr
end OwnRet
def own_b (P : Prop) [Decidable P] : Int32 := if P then 1 else 0
theorem own_bT {P : Prop} [Decidable P] (h : P) : some (Value.int (nar .boolean (1 : Int32))) = some (Value.int (own_b P)) := by rw [own_b, if_pos h]; rfl
theorem own_bF {P : Prop} [Decidable P] (h : ¬ P) : some (Value.int (nar .boolean (0 : Int32))) = some (Value.int (own_b P)) := by rw [own_b, if_neg h]; rfl
theorem own_bEq {P P' : Prop} [Decidable P] [Decidable P'] (h : P ↔ P') : own_b P = own_b P' := by simp only [own_b, h]
/-- a body that writes nothing: what it returns, the heap as it was -/
def own_Qp (r : Option Value) (h0 : Heap) (n0 : Nat) (v : Option Value) (h : Heap) (L : List Loc) : Prop := v = r ∧ Fr n0 L ∧ h = h0
/-- the law's own end: it returns 1, nothing old is written -/
def own_Q0 (n0 : Nat) (v : Option Value) (h : Heap) (L : List Loc) : Prop := v = some (.int 1) ∧ Fr n0 L
theorem own_ord {s : State} {args : Array Value} {t : Term} {a : Addr} {C n d : String} {k : Int32} (ev : t.eval args s none [] s = some (.ref a)) (h : (Jvm.Cond.eq (Term.field t C n d) (Term.int k)).value args s none s [] = some true) : Fld s s.heap a C n d (.int k) := by
  obtain ⟨x, y, e1, e2, -, k2⟩ := cmp_v (Or.inl h)
  obtain rfl : Value.int k = y := Option.some.inj e2
  obtain ⟨z, rfl⟩ := k2
  have q : z = k := by simpa [Jvm.Cond.value, e1, e2] using h
  subst q
  exact Fld.start ((fld_at ev).symm.trans e1)
theorem own_len {s : State} {args : Array Value} {t : Term} {a : Addr} {c : Cell} {ty : FieldType} {n : Int32} (ev : t.eval args s none [] s = some (.ref a)) (A : Arr s s.heap a c ty) (h : (Jvm.Cond.eq (Term.length t) (Term.int n)).value args s none s [] = some true) : c.slots.size < 2 ^ 31 ∧ c.slots.size.toInt32 = n := by
  have q := eqv_i (Term.int_eval n) h
  have f := A.fin (Vm.Alike.refl _)
  have z : c.slots.size < 2147483648 ∧ c.slots.size.toInt32 = n := by simpa [Term.eval, ev, f] using q
  exact z
theorem own_eqr {s : State} {args : Array Value} {X F : Term} {y : Addr} (hF : F.eval args s none [] s = some (.ref y)) (h : (Jvm.Cond.eq X F).value args s none s [] = some true) : X.eval args s none [] s = some (.ref y) := by
  obtain ⟨x, y', e1, e2, k1, k2⟩ := cmp_v (Or.inl h)
  cases hF.symm.trans e2
  have hx : x.isRef = true := k2.2
  have q := gotT (eq_R e1 hF hx rfl) h
  rw [q] at e1; exact e1
theorem own_el {s : State} {args : Array Value} {t : Term} {a : Addr} {c : Cell} {ty : FieldType} {j : Int32} {v : Value} (ev : t.eval args s none [] s = some (.ref a)) (A : Arr s s.heap a c ty) (h : (Term.elem t (Term.int j)).eval args s none [] s = some v) : c.slots[j.toNatClampNeg]? = some v := (elem_in h ev (Term.int_eval j) A.1).2
theorem own_nea {Z : State} {h : Heap} {a b : Addr} {C : String} {a0 : Array Value} {k : Nat} {kc : ClassId} {ty : FieldType} {z : Int32} {vs : List Value} {d : Value} (F : Exa Z h a C) (wi : (Jvm.Cond.instantiable C k).before a0 Z = true) (V : Arv Z h b kc ty z vs d) : a ≠ b := by
  obtain ⟨c, A, -⟩ := V; exact ne_arr F wi A
/-- a String of known chars: its class, its coder, its bytes -/
def own_S (Z : State) (h : Heap) (x : Addr) (cs : List Int32) : Prop := Exa Z h x "java/lang/String" ∧ Fld Z h x "java/lang/String" "coder" "B" (.int 0) ∧ ∃ (t : Addr) (kb : ClassId), Fld Z h x "java/lang/String" "value" "[B" (.ref t) ∧ Arv Z h t kb .byte (Int32.ofNat cs.length) ((cs.map fun c => c.toInt8.toInt32).map Value.int) (.int 0)
theorem own_S.ext {Z : State} {h h' : Heap} {x : Addr} {cs : List Int32} (F : own_S Z h x cs) (E : Ext h h') : own_S Z h' x cs := by
  obtain ⟨a, b, t, kb, c, d⟩ := F; exact ⟨a.ext E, b.ext E, t, kb, c.ext E, d.ext E⟩
theorem own_S.keep0 {Z : State} {h h' : Heap} {x : Addr} {cs : List Int32} (F : own_S Z h x cs) (K : Keep h h' []) : own_S Z h' x cs := by
  obtain ⟨a, b, t, kb, c, d⟩ := F; exact ⟨a.keep K, b.keep K nin0, t, kb, c.keep K nin0, d.keep K nin0⟩
/-- a write into an array or an object that is no String's part, told by its age -/
theorem own_S.old {Z : State} {h h1 h' : Heap} {x : Addr} {cs : List Int32} {ws : List Addr} (F : own_S Z h1 x cs) (E : Ext h1 h) (K : Keep h h' ws) (q : ∀ y ∈ ws, h1.size ≤ y) : own_S Z h' x cs := by
  obtain ⟨a, b, t, kb, c, d⟩ := F
  have n1 : x ∉ ws := fun z => absurd a.lt (Nat.not_lt.mpr (q x z))
  have n2 : t ∉ ws := fun z => absurd d.lt (Nat.not_lt.mpr (q t z))
  exact ⟨(a.ext E).keep K, (b.ext E).keep K n1, t, kb, (c.ext E).keep K n1, (d.ext E).keep K n2⟩
theorem own_up (cs : List Int32) (h : ∀ c ∈ cs, ¬ c < 0 ∧ ¬ (255 : Int32) < c) : ∀ c ∈ cs, ¬ c < 0 ∧ ¬ (65535 : Int32) < c := fun c hc => ⟨(h c hc).1, fun q => (h c hc).2 (by rw [Int32.lt_iff_toInt_lt] at q ⊢; have e1 : (65535 : Int32).toInt = 65535 := rfl; have e2 : (255 : Int32).toInt = 255 := rfl; omega)⟩
theorem own_pd0 : parseMethodDescriptor "()[Lcom/example/tessera/tessera/device/Role;" = some ⟨[], some (.array (.object "com/example/tessera/tessera/device/Role"))⟩ := by decide +kernel
theorem own_pd1 : parseMethodDescriptor "(Ljava/lang/String;)Lcom/example/tessera/tessera/device/Role;" = some ⟨[(.object "java/lang/String")], some (.object "com/example/tessera/tessera/device/Role")⟩ := by decide +kernel
theorem own_pd2 : parseMethodDescriptor "()Ljava/lang/String;" = some ⟨[], some (.object "java/lang/String")⟩ := by decide +kernel
theorem own_pd3 : parseMethodDescriptor "([C)V" = some ⟨[(.array .char)], none⟩ := by decide +kernel
theorem own_pd4 : parseMethodDescriptor "(Ljava/lang/Object;)Z" = some ⟨[(.object "java/lang/Object")], some .boolean⟩ := by decide +kernel
abbrev own_cCLIENT : List Int32 := [99, 108, 105, 101, 110, 116]
theorem own_pCLIENT : ∀ c ∈ own_cCLIENT, ¬ c < 0 ∧ ¬ (255 : Int32) < c := by decide
abbrev own_cRS : List Int32 := [114, 115]
theorem own_pRS : ∀ c ∈ own_cRS, ¬ c < 0 ∧ ¬ (255 : Int32) < c := by decide
abbrev own_cADMIN : List Int32 := [97, 100, 109, 105, 110]
theorem own_pADMIN : ∀ c ∈ own_cADMIN, ¬ c < 0 ∧ ¬ (255 : Int32) < c := by decide
theorem own_heq {a0 : Array Value} {Z : State} (hw : ∀ d ∈ tables_1, d.before a0 Z = true) : ∀ d ∈ StrChars.Road.wordsEq, d.before a0 Z = true := fun d hd => hw d ((by decide +kernel : ∀ d ∈ StrChars.Road.wordsEq, d ∈ tables_1) d hd)
theorem own_hws {a0 : Array Value} {Z : State} (hw : ∀ d ∈ tables_1, d.before a0 Z = true) : ∀ d ∈ StrChars.Road.words, d.before a0 Z = true := fun d hd => hw d ((by decide +kernel : ∀ d ∈ StrChars.Road.words, d ∈ tables_1) d hd)
theorem own_cod (cs : List Int32) (h : ∀ c ∈ cs, ¬ c < 0 ∧ ¬ (255 : Int32) < c) : StrChars.Road.CodA cs 0 (Int32.ofNat cs.length) ((cs.map fun c => c.toInt8.toInt32).map Value.int) := StrChars.Road.codOf rfl (fun c hc => (h c hc).2)
def own_Q1 (Z : State) (c_CLIENT c_RS c_ADMIN : Addr) (kv : ClassId) (h0 : Heap) (n0 : Nat) (v : Option Value) (h : Heap) (L : List Loc) : Prop := ∃ t : Addr, v = some (.ref t) ∧ Fr n0 L ∧ Keep h0 h [] ∧ Arv Z h t kv (.object "com/example/tessera/tessera/device/Role") 3 [.ref c_CLIENT, .ref c_RS, .ref c_ADMIN] .null
theorem own_pn0 : plainName "com/example/tessera/tessera/device/Role" = true := by first | (simp [plainName, overriddenIn]; done) | decide +kernel
theorem own_d1_0 : decode prog_4_method_1_code 0 = .ok (.getstatic 13, 3) := by decide +kernel
theorem own_d1_3 : decode prog_4_method_1_code 3 = .ok (.invokevirtual 17, 3) := by decide +kernel
theorem own_d1_6 : decode prog_4_method_1_code 6 = .ok (.checkcast 18, 3) := by decide +kernel
theorem own_d1_9 : decode prog_4_method_1_code 9 = .ok (.areturn, 1) := by decide +kernel
theorem own_ef1 (m : MethodId)  : entryFrame m #[] 0 = mkF m 0 #[] [] := by first | (simp [entryFrame, mkF, argsToLocals, Value.category]; done) | rfl
set_option maxRecDepth 65536 in
set_option maxHeartbeats 40000000 in
theorem own_rm1 (l : Launch) (Z : State) (a0 : Array Value) (hw : ∀ d ∈ tables_1, d.before a0 Z = true) (ws : List Jvm.Cond) (va : Addr) (kv : ClassId) (c_CLIENT c_RS c_ADMIN : Addr) (h0 : Heap) (n0 : Nat) (Z0 : n0 ≤ h0.size) (Sv : Sta Z h0 "com/example/tessera/tessera/device/Role" "$VALUES" "[Lcom/example/tessera/tessera/device/Role;" (.ref va)) (Vv : Arv Z h0 va kv (.object "com/example/tessera/tessera/device/Role") 3 [.ref c_CLIENT, .ref c_RS, .ref c_ADMIN] .null) (Ev : Exa Z h0 va "[Lcom/example/tessera/tessera/device/Role;") :
    MetFree l (⟨"com/example/tessera/tessera/device/Role", "values", "()[Lcom/example/tessera/tessera/device/Role;"⟩ : MethodName) (head1 (Jvm.Cond.code (⟨"com/example/tessera/tessera/device/Role", "values", "()[Lcom/example/tessera/tessera/device/Role;"⟩ : MethodName) prog_4_method_1_code 0 (some (.array (.object "com/example/tessera/tessera/device/Role"))) :: ws) ({ frames := 1, cells := 1, slots := 3, locals := 14 } : Room)) (fun a U => a = #[] ∧ Z.Warmed39 U.vm ∧ U.heap = h0) (fun _ _ _ _ _ => True) (fun _ U o U' => ∃ v L, o = .returned v ∧ own_Q1 Z c_CLIENT c_RS c_ADMIN kv h0 n0 v U'.heap L ∧ FrameEnd U o U' L ({ frames := 1, cells := 1, slots := 3, locals := 14 } : Room).cells ({ frames := 1, cells := 1, slots := 3, locals := 14 } : Room).slots) := by
  refine MetFree.of_bodySF (plainFor_of_name own_pn0) hisR ?_
  intro p e s m args below meth c s₁ Bd hml0 hP hK
  obtain ⟨rfl, hZ, hh⟩ := hP
  have hx := Bd.exec
  have hby := Bd.bytes
  have hml : c.maxLocals = 0 := hml0
  have hown : s.vm.findClass "com/example/tessera/tessera/device/Role" = some m.cls := findClass_of_methodNamed Bd.named
  have hnm := (name_of_methodNamed Bd.named Bd.method).1
  have X0 : Stand p l e ({ frames := 1, cells := 1, slots := 3, locals := 14 } : Room) s m #[] below meth c s₁ [] 0 0 := Stand.of_body Bd
  have e0 : s₁.heap = h0 := by rw [← hh, Bd.state]; rfl
  have N0 := Fr.nil n0
  refine own_in (Q := own_Q1 Z c_CLIENT c_RS c_ADMIN kv h0 n0) ?_
  rw [own_ef1]
  show own_G _ _ _ _ _ _ _ (s₁.setTop (mkF m 0 #[] []))
  obtain ⟨T1, X1, e1, st1⟩ := getS2 X0 hx hZ hown (host := "") (Or.inl (hw _ (List.mem_of_getElem? (i := 40) rfl))) Via.refl e0 Sv (g := (mkF m 0 #[] [])) rfl (hb hby own_d1_0)
  refine own_st (fun t k => st1 t k) ?_
  show own_G _ _ _ _ _ _ _ (T1.setTop (mkF m 3 #[] [(.ref va)]))
  obtain ⟨T2, h2, X2, e2, E2, V2, Z2, st2⟩ := cloneH X1 hx hZ hown (hw _ (List.mem_of_getElem? (i := 42) rfl)) (hw _ (List.mem_of_getElem? (i := 43) rfl)) (hw _ (List.mem_of_getElem? (i := 47) rfl)) (hw _ (List.mem_of_getElem? (i := 45) rfl)) (hw _ (List.mem_of_getElem? (i := 46) rfl)) (hw _ (List.mem_of_getElem? (i := 48) rfl)) e1 (Vv).arh Ev (g := (mkF m 3 #[] [(.ref va)])) rfl (by rw [hml]; rfl) rfl (hb hby own_d1_3) (by decide) (W := 0) (cap := 3) (by show 2 * 0 + _ ≤ _; exact Nat.le_of_eq rfl) (by decide) (by decide) (by decide) (by decide)
  obtain ⟨t2, g2⟩ : ∃ z, z = h0.size := ⟨_, rfl⟩
  rw [← g2] at V2 Z2 st2
  refine own_st (fun t k => st2 t k) ?_
  show own_G _ _ _ _ _ _ _ (T2.setTop (mkF m 6 #[] [(.ref t2)]))
  have Vt : Arv Z h2 t2 kv (.object "com/example/tessera/tessera/device/Role") 3 [.ref c_CLIENT, .ref c_RS, .ref c_ADMIN] .null := V2
  have Kz : Keep h0 h2 [] := (Keep.refl h0 []).ext E2
  obtain ⟨T3, X3, e3, st3⟩ := castY X2 hx hZ hown (hw _ (List.mem_of_getElem? (i := 52) rfl)) e2 (Ins.self Z2) (g := (mkF m 6 #[] [(.ref t2)])) rfl rfl (hb hby own_d1_6)
  refine own_st (fun t k => st3 t k) ?_
  show own_G _ _ _ _ _ _ _ (T3.setTop (mkF m 9 #[] [(.ref t2)]))
  subst e3
  exact own_retA (ft := (.array (.object "com/example/tessera/tessera/device/Role"))) (w := (.ref t2)) rfl rfl X3 hx Bd.returns (BodyLoose.notSynchronized Bd) (hb hby own_d1_9) (by decide) (by decide) ⟨t2, rfl, N0, Kz, Vt⟩
def own_Q5 (Z : State) (c1 : Addr) (h0 : Heap) (n0 : Nat) (v : Option Value) (h : Heap) (L : List Loc) : Prop := v = some (.ref c1) ∧ Fr n0 L ∧ Keep h0 h []
theorem own_d2_0 : decode prog_4_method_5_code 0 = .ok (.invokestatic 36, 3) := by decide +kernel
theorem own_d2_3 : decode prog_4_method_5_code 3 = .ok (.astore_n 1, 1) := by decide +kernel
theorem own_d2_4 : decode prog_4_method_5_code 4 = .ok (.aload_n 1, 1) := by decide +kernel
theorem own_d2_5 : decode prog_4_method_5_code 5 = .ok (.arraylength, 1) := by decide +kernel
theorem own_d2_6 : decode prog_4_method_5_code 6 = .ok (.istore_n 2, 1) := by decide +kernel
theorem own_d2_7 : decode prog_4_method_5_code 7 = .ok (.iconst 0, 1) := by decide +kernel
theorem own_d2_8 : decode prog_4_method_5_code 8 = .ok (.istore_n 3, 1) := by decide +kernel
theorem own_d2_9 : decode prog_4_method_5_code 9 = .ok (.iload_n 3, 1) := by decide +kernel
theorem own_d2_10 : decode prog_4_method_5_code 10 = .ok (.iload_n 2, 1) := by decide +kernel
theorem own_d2_11 : decode prog_4_method_5_code 11 = .ok (.if_icmp .ge 29, 3) := by decide +kernel
theorem own_d2_14 : decode prog_4_method_5_code 14 = .ok (.aload_n 1, 1) := by decide +kernel
theorem own_d2_15 : decode prog_4_method_5_code 15 = .ok (.iload_n 3, 1) := by decide +kernel
theorem own_d2_16 : decode prog_4_method_5_code 16 = .ok (.aaload, 1) := by decide +kernel
theorem own_d2_17 : decode prog_4_method_5_code 17 = .ok (.astore 4, 2) := by decide +kernel
theorem own_d2_19 : decode prog_4_method_5_code 19 = .ok (.aload 4, 2) := by decide +kernel
theorem own_d2_21 : decode prog_4_method_5_code 21 = .ok (.getfield 32, 3) := by decide +kernel
theorem own_d2_24 : decode prog_4_method_5_code 24 = .ok (.aload_n 0, 1) := by decide +kernel
theorem own_d2_25 : decode prog_4_method_5_code 25 = .ok (.invokevirtual 40, 3) := by decide +kernel
theorem own_d2_28 : decode prog_4_method_5_code 28 = .ok (.ifCond .eq 6, 3) := by decide +kernel
theorem own_d2_31 : decode prog_4_method_5_code 31 = .ok (.aload 4, 2) := by decide +kernel
theorem own_d2_33 : decode prog_4_method_5_code 33 = .ok (.areturn, 1) := by decide +kernel
theorem own_d2_34 : decode prog_4_method_5_code 34 = .ok (.iinc 3 1, 3) := by decide +kernel
theorem own_d2_37 : decode prog_4_method_5_code 37 = .ok (.goto (-28), 3) := by decide +kernel
theorem own_d2_40 : decode prog_4_method_5_code 40 = .ok (.new 46, 3) := by decide +kernel
theorem own_d2_43 : decode prog_4_method_5_code 43 = .ok (.dup, 1) := by decide +kernel
theorem own_d2_44 : decode prog_4_method_5_code 44 = .ok (.aload_n 0, 1) := by decide +kernel
theorem own_d2_45 : decode prog_4_method_5_code 45 = .ok (.invokestatic 36, 3) := by decide +kernel
theorem own_d2_48 : decode prog_4_method_5_code 48 = .ok (.invokestatic 48, 3) := by decide +kernel
theorem own_d2_56 : decode prog_4_method_5_code 56 = .ok (.invokeinterface 58 2, 5) := by decide +kernel
theorem own_d2_61 : decode prog_4_method_5_code 61 = .ok (.ldc 64, 2) := by decide +kernel
theorem own_d2_63 : decode prog_4_method_5_code 63 = .ok (.invokestatic 66, 3) := by decide +kernel
theorem own_d2_66 : decode prog_4_method_5_code 66 = .ok (.invokeinterface 72 2, 5) := by decide +kernel
theorem own_d2_71 : decode prog_4_method_5_code 71 = .ok (.checkcast 41, 3) := by decide +kernel
theorem own_d2_79 : decode prog_4_method_5_code 79 = .ok (.invokespecial 80, 3) := by decide +kernel
theorem own_d2_82 : decode prog_4_method_5_code 82 = .ok (.athrow, 1) := by decide +kernel
theorem own_ef2 (m : MethodId) (s1 : Addr) : entryFrame m #[(.ref s1)] 5 = mkF m 0 #[.val (.ref s1), .unset, .unset, .unset, .unset] [] := by first | (simp [entryFrame, mkF, argsToLocals, Value.category]; done) | rfl
set_option maxRecDepth 65536 in
set_option maxHeartbeats 40000000 in
theorem own_rm2 (l : Launch) (Z : State) (a0 : Array Value) (hw : ∀ d ∈ tables_1, d.before a0 Z = true) (ws : List Jvm.Cond) (s1 : Addr) (va : Addr) (kv : ClassId) (c_CLIENT c_RS c_ADMIN n_CLIENT n_RS n_ADMIN : Addr) (zc : Int32) (h0 : Heap) (n0 : Nat) (Z0 : n0 ≤ h0.size) (O0 : Old Z n0 h0) (Sv : Sta Z Z.heap "com/example/tessera/tessera/device/Role" "$VALUES" "[Lcom/example/tessera/tessera/device/Role;" (.ref va)) (Vv : Arv Z Z.heap va kv (.object "com/example/tessera/tessera/device/Role") 3 [.ref c_CLIENT, .ref c_RS, .ref c_ADMIN] .null) (Ev : Exa Z Z.heap va "[Lcom/example/tessera/tessera/device/Role;") (Sg : Sta Z Z.heap "java/lang/String" "COMPACT_STRINGS" "Z" (.int zc)) (hzc : ¬ zc = 0) (Fn_CLIENT : Fld Z Z.heap c_CLIENT "com/example/tessera/tessera/device/Role" "name" "Ljava/lang/String;" (.ref n_CLIENT)) (N_CLIENT : own_S Z Z.heap n_CLIENT own_cCLIENT) (Fn_RS : Fld Z Z.heap c_RS "com/example/tessera/tessera/device/Role" "name" "Ljava/lang/String;" (.ref n_RS)) (N_RS : own_S Z Z.heap n_RS own_cRS) (Fn_ADMIN : Fld Z Z.heap c_ADMIN "com/example/tessera/tessera/device/Role" "name" "Ljava/lang/String;" (.ref n_ADMIN)) (N_ADMIN : own_S Z Z.heap n_ADMIN own_cADMIN) (Sx : own_S Z h0 s1 own_cCLIENT) :
    MetFree l (⟨"com/example/tessera/tessera/device/Role", "named", "(Ljava/lang/String;)Lcom/example/tessera/tessera/device/Role;"⟩ : MethodName) (head1 (Jvm.Cond.code (⟨"com/example/tessera/tessera/device/Role", "named", "(Ljava/lang/String;)Lcom/example/tessera/tessera/device/Role;"⟩ : MethodName) prog_4_method_5_code 5 (some (.object "com/example/tessera/tessera/device/Role")) :: ws) ({ frames := 2, cells := 1, slots := 3, locals := 28 } : Room)) (fun a U => a = #[(.ref s1)] ∧ Z.Warmed39 U.vm ∧ U.heap = h0) (fun _ _ _ _ _ => True) (fun _ U o U' => ∃ v L, o = .returned v ∧ own_Q5 Z c_CLIENT h0 n0 v U'.heap L ∧ FrameEnd U o U' L ({ frames := 2, cells := 1, slots := 3, locals := 28 } : Room).cells ({ frames := 2, cells := 1, slots := 3, locals := 28 } : Room).slots) := by
  refine MetFree.of_bodySF (plainFor_of_name own_pn0) hisR ?_
  intro p e s m args below meth c s₁ Bd hml0 hP hK
  obtain ⟨rfl, hZ, hh⟩ := hP
  have hx := Bd.exec
  have hby := Bd.bytes
  have hml : c.maxLocals = 5 := hml0
  have hown : s.vm.findClass "com/example/tessera/tessera/device/Role" = some m.cls := findClass_of_methodNamed Bd.named
  have hnm := (name_of_methodNamed Bd.named Bd.method).1
  have X0 : Stand p l e ({ frames := 2, cells := 1, slots := 3, locals := 28 } : Room) s m #[(.ref s1)] below meth c s₁ [] 0 0 := Stand.of_body Bd
  have e0 : s₁.heap = h0 := by rw [← hh, Bd.state]; rfl
  have N0 := Fr.nil n0
  refine own_in (Q := own_Q5 Z c_CLIENT h0 n0) ?_
  rw [own_ef2]
  show own_G _ _ _ _ _ _ _ (s₁.setTop (mkF m 0 #[.val (.ref s1), .unset, .unset, .unset, .unset] []))
  obtain ⟨_, _, ⟨T4, L4, k4, n4⟩, -, X4, ⟨Lc4, hQ4, l4, y4, z4⟩, st4⟩ := Jvm.LawKit.callS X0 hx (y := (⟨"com/example/tessera/tessera/device/Role", "values", "()[Lcom/example/tessera/tessera/device/Role;"⟩ : MethodName)) hown (mvT hZ (hw _ (List.mem_of_getElem? (i := 37) rfl))) (mvT hZ (hw _ (List.mem_of_getElem? (i := 38) rfl))) (mvT hZ (hw _ (List.mem_of_getElem? (i := 3) rfl))) (mvT hZ (hw _ (List.mem_of_getElem? (i := 39) rfl))) (by decide) (backOf (W := 0) (own_rm1 l Z a0 hw [] va kv c_CLIENT c_RS c_ADMIN h0 n0 Z0 (Sv.ext O0.2) (Vv.ext O0.2) (Ev.ext O0.2)) hZ (hw _ (List.mem_of_getElem? (i := 39) rfl)) (hw _ (List.mem_of_getElem? (i := 3) rfl)) (by decide) (by decide)) (g := (mkF m 0 #[.val (.ref s1), .unset, .unset, .unset, .unset] [])) rfl (by rw [hml]; rfl) (argsL := []) (rest := []) (lenOf own_pd0 rfl) rfl (by show 2 * 0 + _ ≤ _; exact Nat.le_of_eq rfl) (hb hby own_d2_0) (fun _ _ => ⟨rfl, e0, (by decide : 0 + 1 ≤ _), (by decide : 0 + 3 ≤ _)⟩)
  dsimp only [Pt.U, Pt.locs, Pt.cells, Pt.slots] at X4 l4 y4 z4 st4 hQ4
  subst l4 y4 z4
  obtain ⟨t1, rfl, N4q, K4, Vt4⟩ := hQ4
  have N4 := Fr.app N0 N4q
  refine own_st (fun t k => st4 t k) ?_
  show own_G _ _ _ _ _ _ _ (T4.setTop (mkF m 3 #[.val (.ref s1), .unset, .unset, .unset, .unset] [(.ref t1)]))
  have O1 := O0.keep K4 all0
  have Sy := Sx.keep0 K4
  refine own_st (fun t k => XS.astoreN X4.here hx rfl (hb hby own_d2_3) rfl rfl (l' := #[.val (.ref s1), .val (.ref t1), .unset, .unset, .unset]) rfl k) ?_
  show own_G _ _ _ _ _ _ _ (T4.setTop (mkF m 4 #[.val (.ref s1), .val (.ref t1), .unset, .unset, .unset] []))
  refine own_st (fun t k => XS.aloadN X4.here hx rfl (hb hby own_d2_4) rfl rfl k) ?_
  show own_G _ _ _ _ _ _ _ (T4.setTop (mkF m 5 #[.val (.ref s1), .val (.ref t1), .unset, .unset, .unset] [(.ref t1)]))
  obtain ⟨cl, Ar, -, Sz, Mz, Hz, -⟩ := Vt4
  refine own_st (fun t k => X4.arraylength hx Ar.1 (State.isArrayOf_alike hZ.alike Ar.2.1) (g := (mkF m 5 #[.val (.ref s1), .val (.ref t1), .unset, .unset, .unset] [(.ref t1)])) rfl rfl (hb hby own_d2_5) t k) ?_
  rw [len_of Sz Mz]
  show own_G _ _ _ _ _ _ _ (T4.setTop (mkF m 6 #[.val (.ref s1), .val (.ref t1), .unset, .unset, .unset] [(.int 3)]))
  refine own_st (fun t k => XS.istoreN X4.here hx rfl (hb hby own_d2_6) rfl (l' := #[.val (.ref s1), .val (.ref t1), .val (.int (3 : Int32)), .unset, .unset]) rfl k) ?_
  show own_G _ _ _ _ _ _ _ (T4.setTop (mkF m 7 #[.val (.ref s1), .val (.ref t1), .val (.int (3 : Int32)), .unset, .unset] []))
  refine own_st (fun t k => XS.iconst X4.here hx rfl (hb hby own_d2_7) k) ?_
  show own_G _ _ _ _ _ _ _ (T4.setTop (mkF m 8 #[.val (.ref s1), .val (.ref t1), .val (.int (3 : Int32)), .unset, .unset] [(.int (0 : Int32))]))
  refine own_st (fun t k => XS.istoreN X4.here hx rfl (hb hby own_d2_8) rfl (l' := #[.val (.ref s1), .val (.ref t1), .val (.int (3 : Int32)), .val (.int (0 : Int32)), .unset]) rfl k) ?_
  show own_G _ _ _ _ _ _ _ (T4.setTop (mkF m 9 #[.val (.ref s1), .val (.ref t1), .val (.int (3 : Int32)), .val (.int (0 : Int32)), .unset] []))
  refine own_st (fun t k => XS.iloadN X4.here hx rfl (hb hby own_d2_9) rfl k) ?_
  show own_G _ _ _ _ _ _ _ (T4.setTop (mkF m 10 #[.val (.ref s1), .val (.ref t1), .val (.int (3 : Int32)), .val (.int (0 : Int32)), .unset] [(.int (0 : Int32))]))
  refine own_st (fun t k => XS.iloadN X4.here hx rfl (hb hby own_d2_10) rfl k) ?_
  show own_G _ _ _ _ _ _ _ (T4.setTop (mkF m 11 #[.val (.ref s1), .val (.ref t1), .val (.int (3 : Int32)), .val (.int (0 : Int32)), .unset] [(.int (3 : Int32)), (.int (0 : Int32))]))
  refine own_st (fun t k => XS.icmpNo X4.here hx rfl (hb hby own_d2_11) rfl (tlt (by decide)).2.1 k) ?_
  show own_G _ _ _ _ _ _ _ (T4.setTop (mkF m 14 #[.val (.ref s1), .val (.ref t1), .val (.int (3 : Int32)), .val (.int (0 : Int32)), .unset] []))
  refine own_st (fun t k => XS.aloadN X4.here hx rfl (hb hby own_d2_14) rfl rfl k) ?_
  show own_G _ _ _ _ _ _ _ (T4.setTop (mkF m 15 #[.val (.ref s1), .val (.ref t1), .val (.int (3 : Int32)), .val (.int (0 : Int32)), .unset] [(.ref t1)]))
  refine own_st (fun t k => XS.iloadN X4.here hx rfl (hb hby own_d2_15) rfl k) ?_
  show own_G _ _ _ _ _ _ _ (T4.setTop (mkF m 16 #[.val (.ref s1), .val (.ref t1), .val (.int (3 : Int32)), .val (.int (0 : Int32)), .unset] [(.int (0 : Int32)), (.ref t1)]))
  have hin0 : ¬ ((0 : Int32) < 0 ∨ cl.slots.size ≤ ((0 : Int32)).toNatClampNeg) := inb_of Sz ⟨by decide, by decide⟩
  have hat0 : cl.slots[((0 : Int32)).toNatClampNeg]? = some (.ref c_CLIENT) := Has.at Hz hin0 rfl
  refine own_st (fun t k => X4.aaload hx (j := (0 : Int32)) (v := (.ref c_CLIENT)) Ar.1 (State.isArrayOf_alike hZ.alike Ar.2.1) rfl Ar.2.2 hin0 hat0 (g := (mkF m 16 #[.val (.ref s1), .val (.ref t1), .val (.int (3 : Int32)), .val (.int (0 : Int32)), .unset] [(.int (0 : Int32)), (.ref t1)])) rfl rfl (hb hby own_d2_16) t k) ?_
  show own_G _ _ _ _ _ _ _ (T4.setTop (mkF m 17 #[.val (.ref s1), .val (.ref t1), .val (.int (3 : Int32)), .val (.int (0 : Int32)), .unset] [(.ref c_CLIENT)]))
  refine own_st (fun t k => XS.astore X4.here hx rfl (hb hby own_d2_17) rfl rfl (l' := #[.val (.ref s1), .val (.ref t1), .val (.int (3 : Int32)), .val (.int (0 : Int32)), .val (.ref c_CLIENT)]) rfl k) ?_
  show own_G _ _ _ _ _ _ _ (T4.setTop (mkF m 19 #[.val (.ref s1), .val (.ref t1), .val (.int (3 : Int32)), .val (.int (0 : Int32)), .val (.ref c_CLIENT)] []))
  refine own_st (fun t k => XS.aload X4.here hx rfl (hb hby own_d2_19) rfl rfl k) ?_
  show own_G _ _ _ _ _ _ _ (T4.setTop (mkF m 21 #[.val (.ref s1), .val (.ref t1), .val (.int (3 : Int32)), .val (.int (0 : Int32)), .val (.ref c_CLIENT)] [(.ref c_CLIENT)]))
  obtain ⟨T5, X5, e5, st5⟩ := getF X4 hx hZ hown (host := "") (Or.inl (hw _ (List.mem_of_getElem? (i := 54) rfl))) Via.refl rfl (Fn_CLIENT.ext O1.2) (g := (mkF m 21 #[.val (.ref s1), .val (.ref t1), .val (.int (3 : Int32)), .val (.int (0 : Int32)), .val (.ref c_CLIENT)] [(.ref c_CLIENT)])) rfl rfl (hb hby own_d2_21)
  refine own_st (fun t k => st5 t k) ?_
  show own_G _ _ _ _ _ _ _ (T5.setTop (mkF m 24 #[.val (.ref s1), .val (.ref t1), .val (.int (3 : Int32)), .val (.int (0 : Int32)), .val (.ref c_CLIENT)] [(.ref n_CLIENT)]))
  refine own_st (fun t k => XS.aloadN X5.here hx rfl (hb hby own_d2_24) rfl rfl k) ?_
  show own_G _ _ _ _ _ _ _ (T5.setTop (mkF m 25 #[.val (.ref s1), .val (.ref t1), .val (.int (3 : Int32)), .val (.int (0 : Int32)), .val (.ref c_CLIENT)] [(.ref s1), (.ref n_CLIENT)]))
  obtain ⟨Ea6, Ca6, ta6, ka6, Va6, Aa6⟩ := (id (N_CLIENT.ext O1.2))
  obtain ⟨Eb6, Cb6, tb6, kb6, Vb6, Ab6⟩ := (id Sy)
  obtain ⟨cq7, kq7, q7a, q7b, q7c⟩ := isOf hZ e5 Ea6
  obtain ⟨_, _, ⟨T7, L7, k7, n7⟩, -, X7, ⟨Lc7, hQ7, l7, y7, z7⟩, st7⟩ := X5.virtualBack hx (y := (⟨"java/lang/String", "equals", "(Ljava/lang/Object;)Z"⟩ : MethodName)) (z := (⟨"java/lang/String", "equals", "(Ljava/lang/Object;)Z"⟩ : MethodName)) hown (mvT hZ (hw _ (List.mem_of_getElem? (i := 56) rfl))) (mvT hZ (hw _ (List.mem_of_getElem? (i := 57) rfl))) (notFace_of_selects (args := #[]) (mvT hZ (hw _ (List.mem_of_getElem? (i := 59) rfl)))) (mvT hZ (hw _ (List.mem_of_getElem? (i := 59) rfl))) (mvT hZ (hw _ (List.mem_of_getElem? (i := 58) rfl))) (by decide) (StrChars.Road.eqW (W := 0) hZ (own_heq hw) (kI := 4) (hw _ (List.mem_of_getElem? (i := 6) rfl)) Ea6 Va6 Ca6 Aa6 (own_cod _ own_pCLIENT) (own_up _ own_pCLIENT) (by decide) Eb6 Vb6 Cb6 Ab6 (own_cod _ own_pCLIENT) (own_up _ own_pCLIENT) (by decide) (Sg.ext O1.2) hzc (by decide) (by decide)) q7a q7c (g := (mkF m 25 #[.val (.ref s1), .val (.ref t1), .val (.int (3 : Int32)), .val (.int (0 : Int32)), .val (.ref c_CLIENT)] [(.ref s1), (.ref n_CLIENT)])) rfl (by rw [hml]; rfl) (Steps.refl _) (argsL := [(.ref s1)]) (rest := []) (lenOf own_pd4 rfl) rfl (by show 2 * 0 + _ ≤ _; exact Nat.le_of_eq rfl) (hb hby own_d2_25) (fun _ _ => ⟨rfl, e5, (by decide : 1 + 0 ≤ _), (by decide : 3 + 0 ≤ _)⟩)
  dsimp only [Pt.U, Pt.locs, Pt.cells, Pt.slots] at X7 l7 y7 z7 st7 hQ7
  subst l7 y7 z7
  obtain ⟨hc7, rfl, e7⟩ := hQ7
  have hv7 : _ = some (Value.int 1) := hc7.elim (fun q => q.1) (fun q => absurd rfl q.2)
  subst hv7
  have N7 := Fr.app N4 (Fr.nil n0)
  refine own_st (fun t k => st7.trans k) ?_
  show own_G _ _ _ _ _ _ _ (T7.setTop (mkF m 28 #[.val (.ref s1), .val (.ref t1), .val (.int (3 : Int32)), .val (.int (0 : Int32)), .val (.ref c_CLIENT)] [(.int (1 : Int32))]))
  refine own_st (fun t k => XS.ifNo X7.here hx rfl (hb hby own_d2_28) rfl ((if0 _ _).trans (feq (by decide)).1) k) ?_
  show own_G _ _ _ _ _ _ _ (T7.setTop (mkF m 31 #[.val (.ref s1), .val (.ref t1), .val (.int (3 : Int32)), .val (.int (0 : Int32)), .val (.ref c_CLIENT)] []))
  refine own_st (fun t k => XS.aload X7.here hx rfl (hb hby own_d2_31) rfl rfl k) ?_
  show own_G _ _ _ _ _ _ _ (T7.setTop (mkF m 33 #[.val (.ref s1), .val (.ref t1), .val (.int (3 : Int32)), .val (.int (0 : Int32)), .val (.ref c_CLIENT)] [(.ref c_CLIENT)]))
  exact own_retA (ft := (.object "com/example/tessera/tessera/device/Role")) (w := (.ref c_CLIENT)) rfl rfl X7 hx Bd.returns (BodyLoose.notSynchronized Bd) (hb hby own_d2_33) (by decide) (by decide) ⟨rfl, N7, by rw [e7]; exact K4⟩
theorem own_d3_0 : decode prog_4_method_5_code 0 = .ok (.invokestatic 36, 3) := by decide +kernel
theorem own_d3_3 : decode prog_4_method_5_code 3 = .ok (.astore_n 1, 1) := by decide +kernel
theorem own_d3_4 : decode prog_4_method_5_code 4 = .ok (.aload_n 1, 1) := by decide +kernel
theorem own_d3_5 : decode prog_4_method_5_code 5 = .ok (.arraylength, 1) := by decide +kernel
theorem own_d3_6 : decode prog_4_method_5_code 6 = .ok (.istore_n 2, 1) := by decide +kernel
theorem own_d3_7 : decode prog_4_method_5_code 7 = .ok (.iconst 0, 1) := by decide +kernel
theorem own_d3_8 : decode prog_4_method_5_code 8 = .ok (.istore_n 3, 1) := by decide +kernel
theorem own_d3_9 : decode prog_4_method_5_code 9 = .ok (.iload_n 3, 1) := by decide +kernel
theorem own_d3_10 : decode prog_4_method_5_code 10 = .ok (.iload_n 2, 1) := by decide +kernel
theorem own_d3_11 : decode prog_4_method_5_code 11 = .ok (.if_icmp .ge 29, 3) := by decide +kernel
theorem own_d3_14 : decode prog_4_method_5_code 14 = .ok (.aload_n 1, 1) := by decide +kernel
theorem own_d3_15 : decode prog_4_method_5_code 15 = .ok (.iload_n 3, 1) := by decide +kernel
theorem own_d3_16 : decode prog_4_method_5_code 16 = .ok (.aaload, 1) := by decide +kernel
theorem own_d3_17 : decode prog_4_method_5_code 17 = .ok (.astore 4, 2) := by decide +kernel
theorem own_d3_19 : decode prog_4_method_5_code 19 = .ok (.aload 4, 2) := by decide +kernel
theorem own_d3_21 : decode prog_4_method_5_code 21 = .ok (.getfield 32, 3) := by decide +kernel
theorem own_d3_24 : decode prog_4_method_5_code 24 = .ok (.aload_n 0, 1) := by decide +kernel
theorem own_d3_25 : decode prog_4_method_5_code 25 = .ok (.invokevirtual 40, 3) := by decide +kernel
theorem own_d3_28 : decode prog_4_method_5_code 28 = .ok (.ifCond .eq 6, 3) := by decide +kernel
theorem own_d3_31 : decode prog_4_method_5_code 31 = .ok (.aload 4, 2) := by decide +kernel
theorem own_d3_33 : decode prog_4_method_5_code 33 = .ok (.areturn, 1) := by decide +kernel
theorem own_d3_34 : decode prog_4_method_5_code 34 = .ok (.iinc 3 1, 3) := by decide +kernel
theorem own_d3_37 : decode prog_4_method_5_code 37 = .ok (.goto (-28), 3) := by decide +kernel
theorem own_d3_40 : decode prog_4_method_5_code 40 = .ok (.new 46, 3) := by decide +kernel
theorem own_d3_43 : decode prog_4_method_5_code 43 = .ok (.dup, 1) := by decide +kernel
theorem own_d3_44 : decode prog_4_method_5_code 44 = .ok (.aload_n 0, 1) := by decide +kernel
theorem own_d3_45 : decode prog_4_method_5_code 45 = .ok (.invokestatic 36, 3) := by decide +kernel
theorem own_d3_48 : decode prog_4_method_5_code 48 = .ok (.invokestatic 48, 3) := by decide +kernel
theorem own_d3_56 : decode prog_4_method_5_code 56 = .ok (.invokeinterface 58 2, 5) := by decide +kernel
theorem own_d3_61 : decode prog_4_method_5_code 61 = .ok (.ldc 64, 2) := by decide +kernel
theorem own_d3_63 : decode prog_4_method_5_code 63 = .ok (.invokestatic 66, 3) := by decide +kernel
theorem own_d3_66 : decode prog_4_method_5_code 66 = .ok (.invokeinterface 72 2, 5) := by decide +kernel
theorem own_d3_71 : decode prog_4_method_5_code 71 = .ok (.checkcast 41, 3) := by decide +kernel
theorem own_d3_79 : decode prog_4_method_5_code 79 = .ok (.invokespecial 80, 3) := by decide +kernel
theorem own_d3_82 : decode prog_4_method_5_code 82 = .ok (.athrow, 1) := by decide +kernel
theorem own_ef3 (m : MethodId) (s1 : Addr) : entryFrame m #[(.ref s1)] 5 = mkF m 0 #[.val (.ref s1), .unset, .unset, .unset, .unset] [] := by first | (simp [entryFrame, mkF, argsToLocals, Value.category]; done) | rfl
set_option maxRecDepth 65536 in
set_option maxHeartbeats 40000000 in
theorem own_rm3 (l : Launch) (Z : State) (a0 : Array Value) (hw : ∀ d ∈ tables_1, d.before a0 Z = true) (ws : List Jvm.Cond) (s1 : Addr) (va : Addr) (kv : ClassId) (c_CLIENT c_RS c_ADMIN n_CLIENT n_RS n_ADMIN : Addr) (zc : Int32) (h0 : Heap) (n0 : Nat) (Z0 : n0 ≤ h0.size) (O0 : Old Z n0 h0) (Sv : Sta Z Z.heap "com/example/tessera/tessera/device/Role" "$VALUES" "[Lcom/example/tessera/tessera/device/Role;" (.ref va)) (Vv : Arv Z Z.heap va kv (.object "com/example/tessera/tessera/device/Role") 3 [.ref c_CLIENT, .ref c_RS, .ref c_ADMIN] .null) (Ev : Exa Z Z.heap va "[Lcom/example/tessera/tessera/device/Role;") (Sg : Sta Z Z.heap "java/lang/String" "COMPACT_STRINGS" "Z" (.int zc)) (hzc : ¬ zc = 0) (Fn_CLIENT : Fld Z Z.heap c_CLIENT "com/example/tessera/tessera/device/Role" "name" "Ljava/lang/String;" (.ref n_CLIENT)) (N_CLIENT : own_S Z Z.heap n_CLIENT own_cCLIENT) (Fn_RS : Fld Z Z.heap c_RS "com/example/tessera/tessera/device/Role" "name" "Ljava/lang/String;" (.ref n_RS)) (N_RS : own_S Z Z.heap n_RS own_cRS) (Fn_ADMIN : Fld Z Z.heap c_ADMIN "com/example/tessera/tessera/device/Role" "name" "Ljava/lang/String;" (.ref n_ADMIN)) (N_ADMIN : own_S Z Z.heap n_ADMIN own_cADMIN) (Sx : own_S Z h0 s1 own_cRS) :
    MetFree l (⟨"com/example/tessera/tessera/device/Role", "named", "(Ljava/lang/String;)Lcom/example/tessera/tessera/device/Role;"⟩ : MethodName) (head1 (Jvm.Cond.code (⟨"com/example/tessera/tessera/device/Role", "named", "(Ljava/lang/String;)Lcom/example/tessera/tessera/device/Role;"⟩ : MethodName) prog_4_method_5_code 5 (some (.object "com/example/tessera/tessera/device/Role")) :: ws) ({ frames := 2, cells := 1, slots := 3, locals := 28 } : Room)) (fun a U => a = #[(.ref s1)] ∧ Z.Warmed39 U.vm ∧ U.heap = h0) (fun _ _ _ _ _ => True) (fun _ U o U' => ∃ v L, o = .returned v ∧ own_Q5 Z c_RS h0 n0 v U'.heap L ∧ FrameEnd U o U' L ({ frames := 2, cells := 1, slots := 3, locals := 28 } : Room).cells ({ frames := 2, cells := 1, slots := 3, locals := 28 } : Room).slots) := by
  refine MetFree.of_bodySF (plainFor_of_name own_pn0) hisR ?_
  intro p e s m args below meth c s₁ Bd hml0 hP hK
  obtain ⟨rfl, hZ, hh⟩ := hP
  have hx := Bd.exec
  have hby := Bd.bytes
  have hml : c.maxLocals = 5 := hml0
  have hown : s.vm.findClass "com/example/tessera/tessera/device/Role" = some m.cls := findClass_of_methodNamed Bd.named
  have hnm := (name_of_methodNamed Bd.named Bd.method).1
  have X0 : Stand p l e ({ frames := 2, cells := 1, slots := 3, locals := 28 } : Room) s m #[(.ref s1)] below meth c s₁ [] 0 0 := Stand.of_body Bd
  have e0 : s₁.heap = h0 := by rw [← hh, Bd.state]; rfl
  have N0 := Fr.nil n0
  refine own_in (Q := own_Q5 Z c_RS h0 n0) ?_
  rw [own_ef3]
  show own_G _ _ _ _ _ _ _ (s₁.setTop (mkF m 0 #[.val (.ref s1), .unset, .unset, .unset, .unset] []))
  obtain ⟨_, _, ⟨T8, L8, k8, n8⟩, -, X8, ⟨Lc8, hQ8, l8, y8, z8⟩, st8⟩ := Jvm.LawKit.callS X0 hx (y := (⟨"com/example/tessera/tessera/device/Role", "values", "()[Lcom/example/tessera/tessera/device/Role;"⟩ : MethodName)) hown (mvT hZ (hw _ (List.mem_of_getElem? (i := 37) rfl))) (mvT hZ (hw _ (List.mem_of_getElem? (i := 38) rfl))) (mvT hZ (hw _ (List.mem_of_getElem? (i := 3) rfl))) (mvT hZ (hw _ (List.mem_of_getElem? (i := 39) rfl))) (by decide) (backOf (W := 0) (own_rm1 l Z a0 hw [] va kv c_CLIENT c_RS c_ADMIN h0 n0 Z0 (Sv.ext O0.2) (Vv.ext O0.2) (Ev.ext O0.2)) hZ (hw _ (List.mem_of_getElem? (i := 39) rfl)) (hw _ (List.mem_of_getElem? (i := 3) rfl)) (by decide) (by decide)) (g := (mkF m 0 #[.val (.ref s1), .unset, .unset, .unset, .unset] [])) rfl (by rw [hml]; rfl) (argsL := []) (rest := []) (lenOf own_pd0 rfl) rfl (by show 2 * 0 + _ ≤ _; exact Nat.le_of_eq rfl) (hb hby own_d3_0) (fun _ _ => ⟨rfl, e0, (by decide : 0 + 1 ≤ _), (by decide : 0 + 3 ≤ _)⟩)
  dsimp only [Pt.U, Pt.locs, Pt.cells, Pt.slots] at X8 l8 y8 z8 st8 hQ8
  subst l8 y8 z8
  obtain ⟨t1, rfl, N8q, K8, Vt8⟩ := hQ8
  have N8 := Fr.app N0 N8q
  refine own_st (fun t k => st8 t k) ?_
  show own_G _ _ _ _ _ _ _ (T8.setTop (mkF m 3 #[.val (.ref s1), .unset, .unset, .unset, .unset] [(.ref t1)]))
  have O1 := O0.keep K8 all0
  have Sy := Sx.keep0 K8
  refine own_st (fun t k => XS.astoreN X8.here hx rfl (hb hby own_d3_3) rfl rfl (l' := #[.val (.ref s1), .val (.ref t1), .unset, .unset, .unset]) rfl k) ?_
  show own_G _ _ _ _ _ _ _ (T8.setTop (mkF m 4 #[.val (.ref s1), .val (.ref t1), .unset, .unset, .unset] []))
  refine own_st (fun t k => XS.aloadN X8.here hx rfl (hb hby own_d3_4) rfl rfl k) ?_
  show own_G _ _ _ _ _ _ _ (T8.setTop (mkF m 5 #[.val (.ref s1), .val (.ref t1), .unset, .unset, .unset] [(.ref t1)]))
  obtain ⟨cl, Ar, -, Sz, Mz, Hz, -⟩ := Vt8
  refine own_st (fun t k => X8.arraylength hx Ar.1 (State.isArrayOf_alike hZ.alike Ar.2.1) (g := (mkF m 5 #[.val (.ref s1), .val (.ref t1), .unset, .unset, .unset] [(.ref t1)])) rfl rfl (hb hby own_d3_5) t k) ?_
  rw [len_of Sz Mz]
  show own_G _ _ _ _ _ _ _ (T8.setTop (mkF m 6 #[.val (.ref s1), .val (.ref t1), .unset, .unset, .unset] [(.int 3)]))
  refine own_st (fun t k => XS.istoreN X8.here hx rfl (hb hby own_d3_6) rfl (l' := #[.val (.ref s1), .val (.ref t1), .val (.int (3 : Int32)), .unset, .unset]) rfl k) ?_
  show own_G _ _ _ _ _ _ _ (T8.setTop (mkF m 7 #[.val (.ref s1), .val (.ref t1), .val (.int (3 : Int32)), .unset, .unset] []))
  refine own_st (fun t k => XS.iconst X8.here hx rfl (hb hby own_d3_7) k) ?_
  show own_G _ _ _ _ _ _ _ (T8.setTop (mkF m 8 #[.val (.ref s1), .val (.ref t1), .val (.int (3 : Int32)), .unset, .unset] [(.int (0 : Int32))]))
  refine own_st (fun t k => XS.istoreN X8.here hx rfl (hb hby own_d3_8) rfl (l' := #[.val (.ref s1), .val (.ref t1), .val (.int (3 : Int32)), .val (.int (0 : Int32)), .unset]) rfl k) ?_
  show own_G _ _ _ _ _ _ _ (T8.setTop (mkF m 9 #[.val (.ref s1), .val (.ref t1), .val (.int (3 : Int32)), .val (.int (0 : Int32)), .unset] []))
  refine own_st (fun t k => XS.iloadN X8.here hx rfl (hb hby own_d3_9) rfl k) ?_
  show own_G _ _ _ _ _ _ _ (T8.setTop (mkF m 10 #[.val (.ref s1), .val (.ref t1), .val (.int (3 : Int32)), .val (.int (0 : Int32)), .unset] [(.int (0 : Int32))]))
  refine own_st (fun t k => XS.iloadN X8.here hx rfl (hb hby own_d3_10) rfl k) ?_
  show own_G _ _ _ _ _ _ _ (T8.setTop (mkF m 11 #[.val (.ref s1), .val (.ref t1), .val (.int (3 : Int32)), .val (.int (0 : Int32)), .unset] [(.int (3 : Int32)), (.int (0 : Int32))]))
  refine own_st (fun t k => XS.icmpNo X8.here hx rfl (hb hby own_d3_11) rfl (tlt (by decide)).2.1 k) ?_
  show own_G _ _ _ _ _ _ _ (T8.setTop (mkF m 14 #[.val (.ref s1), .val (.ref t1), .val (.int (3 : Int32)), .val (.int (0 : Int32)), .unset] []))
  refine own_st (fun t k => XS.aloadN X8.here hx rfl (hb hby own_d3_14) rfl rfl k) ?_
  show own_G _ _ _ _ _ _ _ (T8.setTop (mkF m 15 #[.val (.ref s1), .val (.ref t1), .val (.int (3 : Int32)), .val (.int (0 : Int32)), .unset] [(.ref t1)]))
  refine own_st (fun t k => XS.iloadN X8.here hx rfl (hb hby own_d3_15) rfl k) ?_
  show own_G _ _ _ _ _ _ _ (T8.setTop (mkF m 16 #[.val (.ref s1), .val (.ref t1), .val (.int (3 : Int32)), .val (.int (0 : Int32)), .unset] [(.int (0 : Int32)), (.ref t1)]))
  have hin0 : ¬ ((0 : Int32) < 0 ∨ cl.slots.size ≤ ((0 : Int32)).toNatClampNeg) := inb_of Sz ⟨by decide, by decide⟩
  have hat0 : cl.slots[((0 : Int32)).toNatClampNeg]? = some (.ref c_CLIENT) := Has.at Hz hin0 rfl
  refine own_st (fun t k => X8.aaload hx (j := (0 : Int32)) (v := (.ref c_CLIENT)) Ar.1 (State.isArrayOf_alike hZ.alike Ar.2.1) rfl Ar.2.2 hin0 hat0 (g := (mkF m 16 #[.val (.ref s1), .val (.ref t1), .val (.int (3 : Int32)), .val (.int (0 : Int32)), .unset] [(.int (0 : Int32)), (.ref t1)])) rfl rfl (hb hby own_d3_16) t k) ?_
  show own_G _ _ _ _ _ _ _ (T8.setTop (mkF m 17 #[.val (.ref s1), .val (.ref t1), .val (.int (3 : Int32)), .val (.int (0 : Int32)), .unset] [(.ref c_CLIENT)]))
  refine own_st (fun t k => XS.astore X8.here hx rfl (hb hby own_d3_17) rfl rfl (l' := #[.val (.ref s1), .val (.ref t1), .val (.int (3 : Int32)), .val (.int (0 : Int32)), .val (.ref c_CLIENT)]) rfl k) ?_
  show own_G _ _ _ _ _ _ _ (T8.setTop (mkF m 19 #[.val (.ref s1), .val (.ref t1), .val (.int (3 : Int32)), .val (.int (0 : Int32)), .val (.ref c_CLIENT)] []))
  refine own_st (fun t k => XS.aload X8.here hx rfl (hb hby own_d3_19) rfl rfl k) ?_
  show own_G _ _ _ _ _ _ _ (T8.setTop (mkF m 21 #[.val (.ref s1), .val (.ref t1), .val (.int (3 : Int32)), .val (.int (0 : Int32)), .val (.ref c_CLIENT)] [(.ref c_CLIENT)]))
  obtain ⟨T9, X9, e9, st9⟩ := getF X8 hx hZ hown (host := "") (Or.inl (hw _ (List.mem_of_getElem? (i := 54) rfl))) Via.refl rfl (Fn_CLIENT.ext O1.2) (g := (mkF m 21 #[.val (.ref s1), .val (.ref t1), .val (.int (3 : Int32)), .val (.int (0 : Int32)), .val (.ref c_CLIENT)] [(.ref c_CLIENT)])) rfl rfl (hb hby own_d3_21)
  refine own_st (fun t k => st9 t k) ?_
  show own_G _ _ _ _ _ _ _ (T9.setTop (mkF m 24 #[.val (.ref s1), .val (.ref t1), .val (.int (3 : Int32)), .val (.int (0 : Int32)), .val (.ref c_CLIENT)] [(.ref n_CLIENT)]))
  refine own_st (fun t k => XS.aloadN X9.here hx rfl (hb hby own_d3_24) rfl rfl k) ?_
  show own_G _ _ _ _ _ _ _ (T9.setTop (mkF m 25 #[.val (.ref s1), .val (.ref t1), .val (.int (3 : Int32)), .val (.int (0 : Int32)), .val (.ref c_CLIENT)] [(.ref s1), (.ref n_CLIENT)]))
  obtain ⟨Ea10, Ca10, ta10, ka10, Va10, Aa10⟩ := (id (N_CLIENT.ext O1.2))
  obtain ⟨Eb10, Cb10, tb10, kb10, Vb10, Ab10⟩ := (id Sy)
  obtain ⟨cq11, kq11, q11a, q11b, q11c⟩ := isOf hZ e9 Ea10
  obtain ⟨_, _, ⟨T11, L11, k11, n11⟩, -, X11, ⟨Lc11, hQ11, l11, y11, z11⟩, st11⟩ := X9.virtualBack hx (y := (⟨"java/lang/String", "equals", "(Ljava/lang/Object;)Z"⟩ : MethodName)) (z := (⟨"java/lang/String", "equals", "(Ljava/lang/Object;)Z"⟩ : MethodName)) hown (mvT hZ (hw _ (List.mem_of_getElem? (i := 56) rfl))) (mvT hZ (hw _ (List.mem_of_getElem? (i := 57) rfl))) (notFace_of_selects (args := #[]) (mvT hZ (hw _ (List.mem_of_getElem? (i := 59) rfl)))) (mvT hZ (hw _ (List.mem_of_getElem? (i := 59) rfl))) (mvT hZ (hw _ (List.mem_of_getElem? (i := 58) rfl))) (by decide) (StrChars.Road.eqW (W := 0) hZ (own_heq hw) (kI := 4) (hw _ (List.mem_of_getElem? (i := 6) rfl)) Ea10 Va10 Ca10 Aa10 (own_cod _ own_pCLIENT) (own_up _ own_pCLIENT) (by decide) Eb10 Vb10 Cb10 Ab10 (own_cod _ own_pRS) (own_up _ own_pRS) (by decide) (Sg.ext O1.2) hzc (by decide) (by decide)) q11a q11c (g := (mkF m 25 #[.val (.ref s1), .val (.ref t1), .val (.int (3 : Int32)), .val (.int (0 : Int32)), .val (.ref c_CLIENT)] [(.ref s1), (.ref n_CLIENT)])) rfl (by rw [hml]; rfl) (Steps.refl _) (argsL := [(.ref s1)]) (rest := []) (lenOf own_pd4 rfl) rfl (by show 2 * 0 + _ ≤ _; exact Nat.le_of_eq rfl) (hb hby own_d3_25) (fun _ _ => ⟨rfl, e9, (by decide : 1 + 0 ≤ _), (by decide : 3 + 0 ≤ _)⟩)
  dsimp only [Pt.U, Pt.locs, Pt.cells, Pt.slots] at X11 l11 y11 z11 st11 hQ11
  subst l11 y11 z11
  obtain ⟨hc11, rfl, e11⟩ := hQ11
  have hv11 : _ = some (Value.int 0) := hc11.elim (fun q => absurd q.2 (by decide)) (fun q => q.1)
  subst hv11
  have N11 := Fr.app N8 (Fr.nil n0)
  refine own_st (fun t k => st11.trans k) ?_
  show own_G _ _ _ _ _ _ _ (T11.setTop (mkF m 28 #[.val (.ref s1), .val (.ref t1), .val (.int (3 : Int32)), .val (.int (0 : Int32)), .val (.ref c_CLIENT)] [(.int (0 : Int32))]))
  refine own_st (fun t k => XS.ifYes X11.here hx rfl (pc0 := 28) (pc' := 34) rfl (hb hby own_d3_28) rfl ((if0 _ _).trans (teq rfl).1) (by decide) (by decide) k) ?_
  show own_G _ _ _ _ _ _ _ (T11.setTop (mkF m 34 #[.val (.ref s1), .val (.ref t1), .val (.int (3 : Int32)), .val (.int (0 : Int32)), .val (.ref c_CLIENT)] []))
  refine own_st (fun t k => XS.iinc X11.here hx rfl (hb hby own_d3_34) rfl (l' := #[.val (.ref s1), .val (.ref t1), .val (.int (3 : Int32)), .val (.int ((0 : Int32) + (1 : Int32))), .val (.ref c_CLIENT)]) rfl k) ?_
  show own_G _ _ _ _ _ _ _ (T11.setTop (mkF m 37 #[.val (.ref s1), .val (.ref t1), .val (.int (3 : Int32)), .val (.int ((0 : Int32) + (1 : Int32))), .val (.ref c_CLIENT)] []))
  refine own_st (fun t k => XS.goto X11.here hx rfl (pc0 := 37) (pc' := 9) rfl (hb hby own_d3_37) (by decide) (by decide) k) ?_
  show own_G _ _ _ _ _ _ _ (T11.setTop (mkF m 9 #[.val (.ref s1), .val (.ref t1), .val (.int (3 : Int32)), .val (.int ((0 : Int32) + (1 : Int32))), .val (.ref c_CLIENT)] []))
  refine own_st (fun t k => XS.iloadN X11.here hx rfl (hb hby own_d3_9) rfl k) ?_
  show own_G _ _ _ _ _ _ _ (T11.setTop (mkF m 10 #[.val (.ref s1), .val (.ref t1), .val (.int (3 : Int32)), .val (.int ((0 : Int32) + (1 : Int32))), .val (.ref c_CLIENT)] [(.int ((0 : Int32) + (1 : Int32)))]))
  refine own_st (fun t k => XS.iloadN X11.here hx rfl (hb hby own_d3_10) rfl k) ?_
  show own_G _ _ _ _ _ _ _ (T11.setTop (mkF m 11 #[.val (.ref s1), .val (.ref t1), .val (.int (3 : Int32)), .val (.int ((0 : Int32) + (1 : Int32))), .val (.ref c_CLIENT)] [(.int (3 : Int32)), (.int ((0 : Int32) + (1 : Int32)))]))
  refine own_st (fun t k => XS.icmpNo X11.here hx rfl (hb hby own_d3_11) rfl (tlt (by decide)).2.1 k) ?_
  show own_G _ _ _ _ _ _ _ (T11.setTop (mkF m 14 #[.val (.ref s1), .val (.ref t1), .val (.int (3 : Int32)), .val (.int ((0 : Int32) + (1 : Int32))), .val (.ref c_CLIENT)] []))
  refine own_st (fun t k => XS.aloadN X11.here hx rfl (hb hby own_d3_14) rfl rfl k) ?_
  show own_G _ _ _ _ _ _ _ (T11.setTop (mkF m 15 #[.val (.ref s1), .val (.ref t1), .val (.int (3 : Int32)), .val (.int ((0 : Int32) + (1 : Int32))), .val (.ref c_CLIENT)] [(.ref t1)]))
  refine own_st (fun t k => XS.iloadN X11.here hx rfl (hb hby own_d3_15) rfl k) ?_
  show own_G _ _ _ _ _ _ _ (T11.setTop (mkF m 16 #[.val (.ref s1), .val (.ref t1), .val (.int (3 : Int32)), .val (.int ((0 : Int32) + (1 : Int32))), .val (.ref c_CLIENT)] [(.int ((0 : Int32) + (1 : Int32))), (.ref t1)]))
  have hin1 : ¬ (((0 : Int32) + (1 : Int32)) < 0 ∨ cl.slots.size ≤ (((0 : Int32) + (1 : Int32))).toNatClampNeg) := inb_of Sz ⟨by decide, by decide⟩
  have hat1 : cl.slots[(((0 : Int32) + (1 : Int32))).toNatClampNeg]? = some (.ref c_RS) := Has.at Hz hin1 rfl
  refine own_st (fun t k => X11.aaload hx (j := ((0 : Int32) + (1 : Int32))) (v := (.ref c_RS)) (by rw [e11]; exact Ar.1) (State.isArrayOf_alike hZ.alike Ar.2.1) rfl Ar.2.2 hin1 hat1 (g := (mkF m 16 #[.val (.ref s1), .val (.ref t1), .val (.int (3 : Int32)), .val (.int ((0 : Int32) + (1 : Int32))), .val (.ref c_CLIENT)] [(.int ((0 : Int32) + (1 : Int32))), (.ref t1)])) rfl rfl (hb hby own_d3_16) t k) ?_
  show own_G _ _ _ _ _ _ _ (T11.setTop (mkF m 17 #[.val (.ref s1), .val (.ref t1), .val (.int (3 : Int32)), .val (.int ((0 : Int32) + (1 : Int32))), .val (.ref c_CLIENT)] [(.ref c_RS)]))
  refine own_st (fun t k => XS.astore X11.here hx rfl (hb hby own_d3_17) rfl rfl (l' := #[.val (.ref s1), .val (.ref t1), .val (.int (3 : Int32)), .val (.int ((0 : Int32) + (1 : Int32))), .val (.ref c_RS)]) rfl k) ?_
  show own_G _ _ _ _ _ _ _ (T11.setTop (mkF m 19 #[.val (.ref s1), .val (.ref t1), .val (.int (3 : Int32)), .val (.int ((0 : Int32) + (1 : Int32))), .val (.ref c_RS)] []))
  refine own_st (fun t k => XS.aload X11.here hx rfl (hb hby own_d3_19) rfl rfl k) ?_
  show own_G _ _ _ _ _ _ _ (T11.setTop (mkF m 21 #[.val (.ref s1), .val (.ref t1), .val (.int (3 : Int32)), .val (.int ((0 : Int32) + (1 : Int32))), .val (.ref c_RS)] [(.ref c_RS)]))
  obtain ⟨T12, X12, e12, st12⟩ := getF X11 hx hZ hown (host := "") (Or.inl (hw _ (List.mem_of_getElem? (i := 54) rfl))) Via.refl e11 (Fn_RS.ext O1.2) (g := (mkF m 21 #[.val (.ref s1), .val (.ref t1), .val (.int (3 : Int32)), .val (.int ((0 : Int32) + (1 : Int32))), .val (.ref c_RS)] [(.ref c_RS)])) rfl rfl (hb hby own_d3_21)
  refine own_st (fun t k => st12 t k) ?_
  show own_G _ _ _ _ _ _ _ (T12.setTop (mkF m 24 #[.val (.ref s1), .val (.ref t1), .val (.int (3 : Int32)), .val (.int ((0 : Int32) + (1 : Int32))), .val (.ref c_RS)] [(.ref n_RS)]))
  refine own_st (fun t k => XS.aloadN X12.here hx rfl (hb hby own_d3_24) rfl rfl k) ?_
  show own_G _ _ _ _ _ _ _ (T12.setTop (mkF m 25 #[.val (.ref s1), .val (.ref t1), .val (.int (3 : Int32)), .val (.int ((0 : Int32) + (1 : Int32))), .val (.ref c_RS)] [(.ref s1), (.ref n_RS)]))
  obtain ⟨Ea13, Ca13, ta13, ka13, Va13, Aa13⟩ := (id (N_RS.ext O1.2))
  obtain ⟨Eb13, Cb13, tb13, kb13, Vb13, Ab13⟩ := (id Sy)
  obtain ⟨cq14, kq14, q14a, q14b, q14c⟩ := isOf hZ e12 Ea13
  obtain ⟨_, _, ⟨T14, L14, k14, n14⟩, -, X14, ⟨Lc14, hQ14, l14, y14, z14⟩, st14⟩ := X12.virtualBack hx (y := (⟨"java/lang/String", "equals", "(Ljava/lang/Object;)Z"⟩ : MethodName)) (z := (⟨"java/lang/String", "equals", "(Ljava/lang/Object;)Z"⟩ : MethodName)) hown (mvT hZ (hw _ (List.mem_of_getElem? (i := 56) rfl))) (mvT hZ (hw _ (List.mem_of_getElem? (i := 57) rfl))) (notFace_of_selects (args := #[]) (mvT hZ (hw _ (List.mem_of_getElem? (i := 59) rfl)))) (mvT hZ (hw _ (List.mem_of_getElem? (i := 59) rfl))) (mvT hZ (hw _ (List.mem_of_getElem? (i := 58) rfl))) (by decide) (StrChars.Road.eqW (W := 0) hZ (own_heq hw) (kI := 4) (hw _ (List.mem_of_getElem? (i := 6) rfl)) Ea13 Va13 Ca13 Aa13 (own_cod _ own_pRS) (own_up _ own_pRS) (by decide) Eb13 Vb13 Cb13 Ab13 (own_cod _ own_pRS) (own_up _ own_pRS) (by decide) (Sg.ext O1.2) hzc (by decide) (by decide)) q14a q14c (g := (mkF m 25 #[.val (.ref s1), .val (.ref t1), .val (.int (3 : Int32)), .val (.int ((0 : Int32) + (1 : Int32))), .val (.ref c_RS)] [(.ref s1), (.ref n_RS)])) rfl (by rw [hml]; rfl) (Steps.refl _) (argsL := [(.ref s1)]) (rest := []) (lenOf own_pd4 rfl) rfl (by show 2 * 0 + _ ≤ _; exact Nat.le_of_eq rfl) (hb hby own_d3_25) (fun _ _ => ⟨rfl, e12, (by decide : 1 + 0 ≤ _), (by decide : 3 + 0 ≤ _)⟩)
  dsimp only [Pt.U, Pt.locs, Pt.cells, Pt.slots] at X14 l14 y14 z14 st14 hQ14
  subst l14 y14 z14
  obtain ⟨hc14, rfl, e14⟩ := hQ14
  have hv14 : _ = some (Value.int 1) := hc14.elim (fun q => q.1) (fun q => absurd rfl q.2)
  subst hv14
  have N14 := Fr.app N11 (Fr.nil n0)
  refine own_st (fun t k => st14.trans k) ?_
  show own_G _ _ _ _ _ _ _ (T14.setTop (mkF m 28 #[.val (.ref s1), .val (.ref t1), .val (.int (3 : Int32)), .val (.int ((0 : Int32) + (1 : Int32))), .val (.ref c_RS)] [(.int (1 : Int32))]))
  refine own_st (fun t k => XS.ifNo X14.here hx rfl (hb hby own_d3_28) rfl ((if0 _ _).trans (feq (by decide)).1) k) ?_
  show own_G _ _ _ _ _ _ _ (T14.setTop (mkF m 31 #[.val (.ref s1), .val (.ref t1), .val (.int (3 : Int32)), .val (.int ((0 : Int32) + (1 : Int32))), .val (.ref c_RS)] []))
  refine own_st (fun t k => XS.aload X14.here hx rfl (hb hby own_d3_31) rfl rfl k) ?_
  show own_G _ _ _ _ _ _ _ (T14.setTop (mkF m 33 #[.val (.ref s1), .val (.ref t1), .val (.int (3 : Int32)), .val (.int ((0 : Int32) + (1 : Int32))), .val (.ref c_RS)] [(.ref c_RS)]))
  exact own_retA (ft := (.object "com/example/tessera/tessera/device/Role")) (w := (.ref c_RS)) rfl rfl X14 hx Bd.returns (BodyLoose.notSynchronized Bd) (hb hby own_d3_33) (by decide) (by decide) ⟨rfl, N14, by rw [e14]; exact K8⟩
theorem own_d4_0 : decode prog_4_method_5_code 0 = .ok (.invokestatic 36, 3) := by decide +kernel
theorem own_d4_3 : decode prog_4_method_5_code 3 = .ok (.astore_n 1, 1) := by decide +kernel
theorem own_d4_4 : decode prog_4_method_5_code 4 = .ok (.aload_n 1, 1) := by decide +kernel
theorem own_d4_5 : decode prog_4_method_5_code 5 = .ok (.arraylength, 1) := by decide +kernel
theorem own_d4_6 : decode prog_4_method_5_code 6 = .ok (.istore_n 2, 1) := by decide +kernel
theorem own_d4_7 : decode prog_4_method_5_code 7 = .ok (.iconst 0, 1) := by decide +kernel
theorem own_d4_8 : decode prog_4_method_5_code 8 = .ok (.istore_n 3, 1) := by decide +kernel
theorem own_d4_9 : decode prog_4_method_5_code 9 = .ok (.iload_n 3, 1) := by decide +kernel
theorem own_d4_10 : decode prog_4_method_5_code 10 = .ok (.iload_n 2, 1) := by decide +kernel
theorem own_d4_11 : decode prog_4_method_5_code 11 = .ok (.if_icmp .ge 29, 3) := by decide +kernel
theorem own_d4_14 : decode prog_4_method_5_code 14 = .ok (.aload_n 1, 1) := by decide +kernel
theorem own_d4_15 : decode prog_4_method_5_code 15 = .ok (.iload_n 3, 1) := by decide +kernel
theorem own_d4_16 : decode prog_4_method_5_code 16 = .ok (.aaload, 1) := by decide +kernel
theorem own_d4_17 : decode prog_4_method_5_code 17 = .ok (.astore 4, 2) := by decide +kernel
theorem own_d4_19 : decode prog_4_method_5_code 19 = .ok (.aload 4, 2) := by decide +kernel
theorem own_d4_21 : decode prog_4_method_5_code 21 = .ok (.getfield 32, 3) := by decide +kernel
theorem own_d4_24 : decode prog_4_method_5_code 24 = .ok (.aload_n 0, 1) := by decide +kernel
theorem own_d4_25 : decode prog_4_method_5_code 25 = .ok (.invokevirtual 40, 3) := by decide +kernel
theorem own_d4_28 : decode prog_4_method_5_code 28 = .ok (.ifCond .eq 6, 3) := by decide +kernel
theorem own_d4_31 : decode prog_4_method_5_code 31 = .ok (.aload 4, 2) := by decide +kernel
theorem own_d4_33 : decode prog_4_method_5_code 33 = .ok (.areturn, 1) := by decide +kernel
theorem own_d4_34 : decode prog_4_method_5_code 34 = .ok (.iinc 3 1, 3) := by decide +kernel
theorem own_d4_37 : decode prog_4_method_5_code 37 = .ok (.goto (-28), 3) := by decide +kernel
theorem own_d4_40 : decode prog_4_method_5_code 40 = .ok (.new 46, 3) := by decide +kernel
theorem own_d4_43 : decode prog_4_method_5_code 43 = .ok (.dup, 1) := by decide +kernel
theorem own_d4_44 : decode prog_4_method_5_code 44 = .ok (.aload_n 0, 1) := by decide +kernel
theorem own_d4_45 : decode prog_4_method_5_code 45 = .ok (.invokestatic 36, 3) := by decide +kernel
theorem own_d4_48 : decode prog_4_method_5_code 48 = .ok (.invokestatic 48, 3) := by decide +kernel
theorem own_d4_56 : decode prog_4_method_5_code 56 = .ok (.invokeinterface 58 2, 5) := by decide +kernel
theorem own_d4_61 : decode prog_4_method_5_code 61 = .ok (.ldc 64, 2) := by decide +kernel
theorem own_d4_63 : decode prog_4_method_5_code 63 = .ok (.invokestatic 66, 3) := by decide +kernel
theorem own_d4_66 : decode prog_4_method_5_code 66 = .ok (.invokeinterface 72 2, 5) := by decide +kernel
theorem own_d4_71 : decode prog_4_method_5_code 71 = .ok (.checkcast 41, 3) := by decide +kernel
theorem own_d4_79 : decode prog_4_method_5_code 79 = .ok (.invokespecial 80, 3) := by decide +kernel
theorem own_d4_82 : decode prog_4_method_5_code 82 = .ok (.athrow, 1) := by decide +kernel
theorem own_ef4 (m : MethodId) (s1 : Addr) : entryFrame m #[(.ref s1)] 5 = mkF m 0 #[.val (.ref s1), .unset, .unset, .unset, .unset] [] := by first | (simp [entryFrame, mkF, argsToLocals, Value.category]; done) | rfl
set_option maxRecDepth 65536 in
set_option maxHeartbeats 40000000 in
theorem own_rm4 (l : Launch) (Z : State) (a0 : Array Value) (hw : ∀ d ∈ tables_1, d.before a0 Z = true) (ws : List Jvm.Cond) (s1 : Addr) (va : Addr) (kv : ClassId) (c_CLIENT c_RS c_ADMIN n_CLIENT n_RS n_ADMIN : Addr) (zc : Int32) (h0 : Heap) (n0 : Nat) (Z0 : n0 ≤ h0.size) (O0 : Old Z n0 h0) (Sv : Sta Z Z.heap "com/example/tessera/tessera/device/Role" "$VALUES" "[Lcom/example/tessera/tessera/device/Role;" (.ref va)) (Vv : Arv Z Z.heap va kv (.object "com/example/tessera/tessera/device/Role") 3 [.ref c_CLIENT, .ref c_RS, .ref c_ADMIN] .null) (Ev : Exa Z Z.heap va "[Lcom/example/tessera/tessera/device/Role;") (Sg : Sta Z Z.heap "java/lang/String" "COMPACT_STRINGS" "Z" (.int zc)) (hzc : ¬ zc = 0) (Fn_CLIENT : Fld Z Z.heap c_CLIENT "com/example/tessera/tessera/device/Role" "name" "Ljava/lang/String;" (.ref n_CLIENT)) (N_CLIENT : own_S Z Z.heap n_CLIENT own_cCLIENT) (Fn_RS : Fld Z Z.heap c_RS "com/example/tessera/tessera/device/Role" "name" "Ljava/lang/String;" (.ref n_RS)) (N_RS : own_S Z Z.heap n_RS own_cRS) (Fn_ADMIN : Fld Z Z.heap c_ADMIN "com/example/tessera/tessera/device/Role" "name" "Ljava/lang/String;" (.ref n_ADMIN)) (N_ADMIN : own_S Z Z.heap n_ADMIN own_cADMIN) (Sx : own_S Z h0 s1 own_cADMIN) :
    MetFree l (⟨"com/example/tessera/tessera/device/Role", "named", "(Ljava/lang/String;)Lcom/example/tessera/tessera/device/Role;"⟩ : MethodName) (head1 (Jvm.Cond.code (⟨"com/example/tessera/tessera/device/Role", "named", "(Ljava/lang/String;)Lcom/example/tessera/tessera/device/Role;"⟩ : MethodName) prog_4_method_5_code 5 (some (.object "com/example/tessera/tessera/device/Role")) :: ws) ({ frames := 2, cells := 1, slots := 3, locals := 28 } : Room)) (fun a U => a = #[(.ref s1)] ∧ Z.Warmed39 U.vm ∧ U.heap = h0) (fun _ _ _ _ _ => True) (fun _ U o U' => ∃ v L, o = .returned v ∧ own_Q5 Z c_ADMIN h0 n0 v U'.heap L ∧ FrameEnd U o U' L ({ frames := 2, cells := 1, slots := 3, locals := 28 } : Room).cells ({ frames := 2, cells := 1, slots := 3, locals := 28 } : Room).slots) := by
  refine MetFree.of_bodySF (plainFor_of_name own_pn0) hisR ?_
  intro p e s m args below meth c s₁ Bd hml0 hP hK
  obtain ⟨rfl, hZ, hh⟩ := hP
  have hx := Bd.exec
  have hby := Bd.bytes
  have hml : c.maxLocals = 5 := hml0
  have hown : s.vm.findClass "com/example/tessera/tessera/device/Role" = some m.cls := findClass_of_methodNamed Bd.named
  have hnm := (name_of_methodNamed Bd.named Bd.method).1
  have X0 : Stand p l e ({ frames := 2, cells := 1, slots := 3, locals := 28 } : Room) s m #[(.ref s1)] below meth c s₁ [] 0 0 := Stand.of_body Bd
  have e0 : s₁.heap = h0 := by rw [← hh, Bd.state]; rfl
  have N0 := Fr.nil n0
  refine own_in (Q := own_Q5 Z c_ADMIN h0 n0) ?_
  rw [own_ef4]
  show own_G _ _ _ _ _ _ _ (s₁.setTop (mkF m 0 #[.val (.ref s1), .unset, .unset, .unset, .unset] []))
  obtain ⟨_, _, ⟨T15, L15, k15, n15⟩, -, X15, ⟨Lc15, hQ15, l15, y15, z15⟩, st15⟩ := Jvm.LawKit.callS X0 hx (y := (⟨"com/example/tessera/tessera/device/Role", "values", "()[Lcom/example/tessera/tessera/device/Role;"⟩ : MethodName)) hown (mvT hZ (hw _ (List.mem_of_getElem? (i := 37) rfl))) (mvT hZ (hw _ (List.mem_of_getElem? (i := 38) rfl))) (mvT hZ (hw _ (List.mem_of_getElem? (i := 3) rfl))) (mvT hZ (hw _ (List.mem_of_getElem? (i := 39) rfl))) (by decide) (backOf (W := 0) (own_rm1 l Z a0 hw [] va kv c_CLIENT c_RS c_ADMIN h0 n0 Z0 (Sv.ext O0.2) (Vv.ext O0.2) (Ev.ext O0.2)) hZ (hw _ (List.mem_of_getElem? (i := 39) rfl)) (hw _ (List.mem_of_getElem? (i := 3) rfl)) (by decide) (by decide)) (g := (mkF m 0 #[.val (.ref s1), .unset, .unset, .unset, .unset] [])) rfl (by rw [hml]; rfl) (argsL := []) (rest := []) (lenOf own_pd0 rfl) rfl (by show 2 * 0 + _ ≤ _; exact Nat.le_of_eq rfl) (hb hby own_d4_0) (fun _ _ => ⟨rfl, e0, (by decide : 0 + 1 ≤ _), (by decide : 0 + 3 ≤ _)⟩)
  dsimp only [Pt.U, Pt.locs, Pt.cells, Pt.slots] at X15 l15 y15 z15 st15 hQ15
  subst l15 y15 z15
  obtain ⟨t1, rfl, N15q, K15, Vt15⟩ := hQ15
  have N15 := Fr.app N0 N15q
  refine own_st (fun t k => st15 t k) ?_
  show own_G _ _ _ _ _ _ _ (T15.setTop (mkF m 3 #[.val (.ref s1), .unset, .unset, .unset, .unset] [(.ref t1)]))
  have O1 := O0.keep K15 all0
  have Sy := Sx.keep0 K15
  refine own_st (fun t k => XS.astoreN X15.here hx rfl (hb hby own_d4_3) rfl rfl (l' := #[.val (.ref s1), .val (.ref t1), .unset, .unset, .unset]) rfl k) ?_
  show own_G _ _ _ _ _ _ _ (T15.setTop (mkF m 4 #[.val (.ref s1), .val (.ref t1), .unset, .unset, .unset] []))
  refine own_st (fun t k => XS.aloadN X15.here hx rfl (hb hby own_d4_4) rfl rfl k) ?_
  show own_G _ _ _ _ _ _ _ (T15.setTop (mkF m 5 #[.val (.ref s1), .val (.ref t1), .unset, .unset, .unset] [(.ref t1)]))
  obtain ⟨cl, Ar, -, Sz, Mz, Hz, -⟩ := Vt15
  refine own_st (fun t k => X15.arraylength hx Ar.1 (State.isArrayOf_alike hZ.alike Ar.2.1) (g := (mkF m 5 #[.val (.ref s1), .val (.ref t1), .unset, .unset, .unset] [(.ref t1)])) rfl rfl (hb hby own_d4_5) t k) ?_
  rw [len_of Sz Mz]
  show own_G _ _ _ _ _ _ _ (T15.setTop (mkF m 6 #[.val (.ref s1), .val (.ref t1), .unset, .unset, .unset] [(.int 3)]))
  refine own_st (fun t k => XS.istoreN X15.here hx rfl (hb hby own_d4_6) rfl (l' := #[.val (.ref s1), .val (.ref t1), .val (.int (3 : Int32)), .unset, .unset]) rfl k) ?_
  show own_G _ _ _ _ _ _ _ (T15.setTop (mkF m 7 #[.val (.ref s1), .val (.ref t1), .val (.int (3 : Int32)), .unset, .unset] []))
  refine own_st (fun t k => XS.iconst X15.here hx rfl (hb hby own_d4_7) k) ?_
  show own_G _ _ _ _ _ _ _ (T15.setTop (mkF m 8 #[.val (.ref s1), .val (.ref t1), .val (.int (3 : Int32)), .unset, .unset] [(.int (0 : Int32))]))
  refine own_st (fun t k => XS.istoreN X15.here hx rfl (hb hby own_d4_8) rfl (l' := #[.val (.ref s1), .val (.ref t1), .val (.int (3 : Int32)), .val (.int (0 : Int32)), .unset]) rfl k) ?_
  show own_G _ _ _ _ _ _ _ (T15.setTop (mkF m 9 #[.val (.ref s1), .val (.ref t1), .val (.int (3 : Int32)), .val (.int (0 : Int32)), .unset] []))
  refine own_st (fun t k => XS.iloadN X15.here hx rfl (hb hby own_d4_9) rfl k) ?_
  show own_G _ _ _ _ _ _ _ (T15.setTop (mkF m 10 #[.val (.ref s1), .val (.ref t1), .val (.int (3 : Int32)), .val (.int (0 : Int32)), .unset] [(.int (0 : Int32))]))
  refine own_st (fun t k => XS.iloadN X15.here hx rfl (hb hby own_d4_10) rfl k) ?_
  show own_G _ _ _ _ _ _ _ (T15.setTop (mkF m 11 #[.val (.ref s1), .val (.ref t1), .val (.int (3 : Int32)), .val (.int (0 : Int32)), .unset] [(.int (3 : Int32)), (.int (0 : Int32))]))
  refine own_st (fun t k => XS.icmpNo X15.here hx rfl (hb hby own_d4_11) rfl (tlt (by decide)).2.1 k) ?_
  show own_G _ _ _ _ _ _ _ (T15.setTop (mkF m 14 #[.val (.ref s1), .val (.ref t1), .val (.int (3 : Int32)), .val (.int (0 : Int32)), .unset] []))
  refine own_st (fun t k => XS.aloadN X15.here hx rfl (hb hby own_d4_14) rfl rfl k) ?_
  show own_G _ _ _ _ _ _ _ (T15.setTop (mkF m 15 #[.val (.ref s1), .val (.ref t1), .val (.int (3 : Int32)), .val (.int (0 : Int32)), .unset] [(.ref t1)]))
  refine own_st (fun t k => XS.iloadN X15.here hx rfl (hb hby own_d4_15) rfl k) ?_
  show own_G _ _ _ _ _ _ _ (T15.setTop (mkF m 16 #[.val (.ref s1), .val (.ref t1), .val (.int (3 : Int32)), .val (.int (0 : Int32)), .unset] [(.int (0 : Int32)), (.ref t1)]))
  have hin0 : ¬ ((0 : Int32) < 0 ∨ cl.slots.size ≤ ((0 : Int32)).toNatClampNeg) := inb_of Sz ⟨by decide, by decide⟩
  have hat0 : cl.slots[((0 : Int32)).toNatClampNeg]? = some (.ref c_CLIENT) := Has.at Hz hin0 rfl
  refine own_st (fun t k => X15.aaload hx (j := (0 : Int32)) (v := (.ref c_CLIENT)) Ar.1 (State.isArrayOf_alike hZ.alike Ar.2.1) rfl Ar.2.2 hin0 hat0 (g := (mkF m 16 #[.val (.ref s1), .val (.ref t1), .val (.int (3 : Int32)), .val (.int (0 : Int32)), .unset] [(.int (0 : Int32)), (.ref t1)])) rfl rfl (hb hby own_d4_16) t k) ?_
  show own_G _ _ _ _ _ _ _ (T15.setTop (mkF m 17 #[.val (.ref s1), .val (.ref t1), .val (.int (3 : Int32)), .val (.int (0 : Int32)), .unset] [(.ref c_CLIENT)]))
  refine own_st (fun t k => XS.astore X15.here hx rfl (hb hby own_d4_17) rfl rfl (l' := #[.val (.ref s1), .val (.ref t1), .val (.int (3 : Int32)), .val (.int (0 : Int32)), .val (.ref c_CLIENT)]) rfl k) ?_
  show own_G _ _ _ _ _ _ _ (T15.setTop (mkF m 19 #[.val (.ref s1), .val (.ref t1), .val (.int (3 : Int32)), .val (.int (0 : Int32)), .val (.ref c_CLIENT)] []))
  refine own_st (fun t k => XS.aload X15.here hx rfl (hb hby own_d4_19) rfl rfl k) ?_
  show own_G _ _ _ _ _ _ _ (T15.setTop (mkF m 21 #[.val (.ref s1), .val (.ref t1), .val (.int (3 : Int32)), .val (.int (0 : Int32)), .val (.ref c_CLIENT)] [(.ref c_CLIENT)]))
  obtain ⟨T16, X16, e16, st16⟩ := getF X15 hx hZ hown (host := "") (Or.inl (hw _ (List.mem_of_getElem? (i := 54) rfl))) Via.refl rfl (Fn_CLIENT.ext O1.2) (g := (mkF m 21 #[.val (.ref s1), .val (.ref t1), .val (.int (3 : Int32)), .val (.int (0 : Int32)), .val (.ref c_CLIENT)] [(.ref c_CLIENT)])) rfl rfl (hb hby own_d4_21)
  refine own_st (fun t k => st16 t k) ?_
  show own_G _ _ _ _ _ _ _ (T16.setTop (mkF m 24 #[.val (.ref s1), .val (.ref t1), .val (.int (3 : Int32)), .val (.int (0 : Int32)), .val (.ref c_CLIENT)] [(.ref n_CLIENT)]))
  refine own_st (fun t k => XS.aloadN X16.here hx rfl (hb hby own_d4_24) rfl rfl k) ?_
  show own_G _ _ _ _ _ _ _ (T16.setTop (mkF m 25 #[.val (.ref s1), .val (.ref t1), .val (.int (3 : Int32)), .val (.int (0 : Int32)), .val (.ref c_CLIENT)] [(.ref s1), (.ref n_CLIENT)]))
  obtain ⟨Ea17, Ca17, ta17, ka17, Va17, Aa17⟩ := (id (N_CLIENT.ext O1.2))
  obtain ⟨Eb17, Cb17, tb17, kb17, Vb17, Ab17⟩ := (id Sy)
  obtain ⟨cq18, kq18, q18a, q18b, q18c⟩ := isOf hZ e16 Ea17
  obtain ⟨_, _, ⟨T18, L18, k18, n18⟩, -, X18, ⟨Lc18, hQ18, l18, y18, z18⟩, st18⟩ := X16.virtualBack hx (y := (⟨"java/lang/String", "equals", "(Ljava/lang/Object;)Z"⟩ : MethodName)) (z := (⟨"java/lang/String", "equals", "(Ljava/lang/Object;)Z"⟩ : MethodName)) hown (mvT hZ (hw _ (List.mem_of_getElem? (i := 56) rfl))) (mvT hZ (hw _ (List.mem_of_getElem? (i := 57) rfl))) (notFace_of_selects (args := #[]) (mvT hZ (hw _ (List.mem_of_getElem? (i := 59) rfl)))) (mvT hZ (hw _ (List.mem_of_getElem? (i := 59) rfl))) (mvT hZ (hw _ (List.mem_of_getElem? (i := 58) rfl))) (by decide) (StrChars.Road.eqW (W := 0) hZ (own_heq hw) (kI := 4) (hw _ (List.mem_of_getElem? (i := 6) rfl)) Ea17 Va17 Ca17 Aa17 (own_cod _ own_pCLIENT) (own_up _ own_pCLIENT) (by decide) Eb17 Vb17 Cb17 Ab17 (own_cod _ own_pADMIN) (own_up _ own_pADMIN) (by decide) (Sg.ext O1.2) hzc (by decide) (by decide)) q18a q18c (g := (mkF m 25 #[.val (.ref s1), .val (.ref t1), .val (.int (3 : Int32)), .val (.int (0 : Int32)), .val (.ref c_CLIENT)] [(.ref s1), (.ref n_CLIENT)])) rfl (by rw [hml]; rfl) (Steps.refl _) (argsL := [(.ref s1)]) (rest := []) (lenOf own_pd4 rfl) rfl (by show 2 * 0 + _ ≤ _; exact Nat.le_of_eq rfl) (hb hby own_d4_25) (fun _ _ => ⟨rfl, e16, (by decide : 1 + 0 ≤ _), (by decide : 3 + 0 ≤ _)⟩)
  dsimp only [Pt.U, Pt.locs, Pt.cells, Pt.slots] at X18 l18 y18 z18 st18 hQ18
  subst l18 y18 z18
  obtain ⟨hc18, rfl, e18⟩ := hQ18
  have hv18 : _ = some (Value.int 0) := hc18.elim (fun q => absurd q.2 (by decide)) (fun q => q.1)
  subst hv18
  have N18 := Fr.app N15 (Fr.nil n0)
  refine own_st (fun t k => st18.trans k) ?_
  show own_G _ _ _ _ _ _ _ (T18.setTop (mkF m 28 #[.val (.ref s1), .val (.ref t1), .val (.int (3 : Int32)), .val (.int (0 : Int32)), .val (.ref c_CLIENT)] [(.int (0 : Int32))]))
  refine own_st (fun t k => XS.ifYes X18.here hx rfl (pc0 := 28) (pc' := 34) rfl (hb hby own_d4_28) rfl ((if0 _ _).trans (teq rfl).1) (by decide) (by decide) k) ?_
  show own_G _ _ _ _ _ _ _ (T18.setTop (mkF m 34 #[.val (.ref s1), .val (.ref t1), .val (.int (3 : Int32)), .val (.int (0 : Int32)), .val (.ref c_CLIENT)] []))
  refine own_st (fun t k => XS.iinc X18.here hx rfl (hb hby own_d4_34) rfl (l' := #[.val (.ref s1), .val (.ref t1), .val (.int (3 : Int32)), .val (.int ((0 : Int32) + (1 : Int32))), .val (.ref c_CLIENT)]) rfl k) ?_
  show own_G _ _ _ _ _ _ _ (T18.setTop (mkF m 37 #[.val (.ref s1), .val (.ref t1), .val (.int (3 : Int32)), .val (.int ((0 : Int32) + (1 : Int32))), .val (.ref c_CLIENT)] []))
  refine own_st (fun t k => XS.goto X18.here hx rfl (pc0 := 37) (pc' := 9) rfl (hb hby own_d4_37) (by decide) (by decide) k) ?_
  show own_G _ _ _ _ _ _ _ (T18.setTop (mkF m 9 #[.val (.ref s1), .val (.ref t1), .val (.int (3 : Int32)), .val (.int ((0 : Int32) + (1 : Int32))), .val (.ref c_CLIENT)] []))
  refine own_st (fun t k => XS.iloadN X18.here hx rfl (hb hby own_d4_9) rfl k) ?_
  show own_G _ _ _ _ _ _ _ (T18.setTop (mkF m 10 #[.val (.ref s1), .val (.ref t1), .val (.int (3 : Int32)), .val (.int ((0 : Int32) + (1 : Int32))), .val (.ref c_CLIENT)] [(.int ((0 : Int32) + (1 : Int32)))]))
  refine own_st (fun t k => XS.iloadN X18.here hx rfl (hb hby own_d4_10) rfl k) ?_
  show own_G _ _ _ _ _ _ _ (T18.setTop (mkF m 11 #[.val (.ref s1), .val (.ref t1), .val (.int (3 : Int32)), .val (.int ((0 : Int32) + (1 : Int32))), .val (.ref c_CLIENT)] [(.int (3 : Int32)), (.int ((0 : Int32) + (1 : Int32)))]))
  refine own_st (fun t k => XS.icmpNo X18.here hx rfl (hb hby own_d4_11) rfl (tlt (by decide)).2.1 k) ?_
  show own_G _ _ _ _ _ _ _ (T18.setTop (mkF m 14 #[.val (.ref s1), .val (.ref t1), .val (.int (3 : Int32)), .val (.int ((0 : Int32) + (1 : Int32))), .val (.ref c_CLIENT)] []))
  refine own_st (fun t k => XS.aloadN X18.here hx rfl (hb hby own_d4_14) rfl rfl k) ?_
  show own_G _ _ _ _ _ _ _ (T18.setTop (mkF m 15 #[.val (.ref s1), .val (.ref t1), .val (.int (3 : Int32)), .val (.int ((0 : Int32) + (1 : Int32))), .val (.ref c_CLIENT)] [(.ref t1)]))
  refine own_st (fun t k => XS.iloadN X18.here hx rfl (hb hby own_d4_15) rfl k) ?_
  show own_G _ _ _ _ _ _ _ (T18.setTop (mkF m 16 #[.val (.ref s1), .val (.ref t1), .val (.int (3 : Int32)), .val (.int ((0 : Int32) + (1 : Int32))), .val (.ref c_CLIENT)] [(.int ((0 : Int32) + (1 : Int32))), (.ref t1)]))
  have hin1 : ¬ (((0 : Int32) + (1 : Int32)) < 0 ∨ cl.slots.size ≤ (((0 : Int32) + (1 : Int32))).toNatClampNeg) := inb_of Sz ⟨by decide, by decide⟩
  have hat1 : cl.slots[(((0 : Int32) + (1 : Int32))).toNatClampNeg]? = some (.ref c_RS) := Has.at Hz hin1 rfl
  refine own_st (fun t k => X18.aaload hx (j := ((0 : Int32) + (1 : Int32))) (v := (.ref c_RS)) (by rw [e18]; exact Ar.1) (State.isArrayOf_alike hZ.alike Ar.2.1) rfl Ar.2.2 hin1 hat1 (g := (mkF m 16 #[.val (.ref s1), .val (.ref t1), .val (.int (3 : Int32)), .val (.int ((0 : Int32) + (1 : Int32))), .val (.ref c_CLIENT)] [(.int ((0 : Int32) + (1 : Int32))), (.ref t1)])) rfl rfl (hb hby own_d4_16) t k) ?_
  show own_G _ _ _ _ _ _ _ (T18.setTop (mkF m 17 #[.val (.ref s1), .val (.ref t1), .val (.int (3 : Int32)), .val (.int ((0 : Int32) + (1 : Int32))), .val (.ref c_CLIENT)] [(.ref c_RS)]))
  refine own_st (fun t k => XS.astore X18.here hx rfl (hb hby own_d4_17) rfl rfl (l' := #[.val (.ref s1), .val (.ref t1), .val (.int (3 : Int32)), .val (.int ((0 : Int32) + (1 : Int32))), .val (.ref c_RS)]) rfl k) ?_
  show own_G _ _ _ _ _ _ _ (T18.setTop (mkF m 19 #[.val (.ref s1), .val (.ref t1), .val (.int (3 : Int32)), .val (.int ((0 : Int32) + (1 : Int32))), .val (.ref c_RS)] []))
  refine own_st (fun t k => XS.aload X18.here hx rfl (hb hby own_d4_19) rfl rfl k) ?_
  show own_G _ _ _ _ _ _ _ (T18.setTop (mkF m 21 #[.val (.ref s1), .val (.ref t1), .val (.int (3 : Int32)), .val (.int ((0 : Int32) + (1 : Int32))), .val (.ref c_RS)] [(.ref c_RS)]))
  obtain ⟨T19, X19, e19, st19⟩ := getF X18 hx hZ hown (host := "") (Or.inl (hw _ (List.mem_of_getElem? (i := 54) rfl))) Via.refl e18 (Fn_RS.ext O1.2) (g := (mkF m 21 #[.val (.ref s1), .val (.ref t1), .val (.int (3 : Int32)), .val (.int ((0 : Int32) + (1 : Int32))), .val (.ref c_RS)] [(.ref c_RS)])) rfl rfl (hb hby own_d4_21)
  refine own_st (fun t k => st19 t k) ?_
  show own_G _ _ _ _ _ _ _ (T19.setTop (mkF m 24 #[.val (.ref s1), .val (.ref t1), .val (.int (3 : Int32)), .val (.int ((0 : Int32) + (1 : Int32))), .val (.ref c_RS)] [(.ref n_RS)]))
  refine own_st (fun t k => XS.aloadN X19.here hx rfl (hb hby own_d4_24) rfl rfl k) ?_
  show own_G _ _ _ _ _ _ _ (T19.setTop (mkF m 25 #[.val (.ref s1), .val (.ref t1), .val (.int (3 : Int32)), .val (.int ((0 : Int32) + (1 : Int32))), .val (.ref c_RS)] [(.ref s1), (.ref n_RS)]))
  obtain ⟨Ea20, Ca20, ta20, ka20, Va20, Aa20⟩ := (id (N_RS.ext O1.2))
  obtain ⟨Eb20, Cb20, tb20, kb20, Vb20, Ab20⟩ := (id Sy)
  obtain ⟨cq21, kq21, q21a, q21b, q21c⟩ := isOf hZ e19 Ea20
  obtain ⟨_, _, ⟨T21, L21, k21, n21⟩, -, X21, ⟨Lc21, hQ21, l21, y21, z21⟩, st21⟩ := X19.virtualBack hx (y := (⟨"java/lang/String", "equals", "(Ljava/lang/Object;)Z"⟩ : MethodName)) (z := (⟨"java/lang/String", "equals", "(Ljava/lang/Object;)Z"⟩ : MethodName)) hown (mvT hZ (hw _ (List.mem_of_getElem? (i := 56) rfl))) (mvT hZ (hw _ (List.mem_of_getElem? (i := 57) rfl))) (notFace_of_selects (args := #[]) (mvT hZ (hw _ (List.mem_of_getElem? (i := 59) rfl)))) (mvT hZ (hw _ (List.mem_of_getElem? (i := 59) rfl))) (mvT hZ (hw _ (List.mem_of_getElem? (i := 58) rfl))) (by decide) (StrChars.Road.eqW (W := 0) hZ (own_heq hw) (kI := 4) (hw _ (List.mem_of_getElem? (i := 6) rfl)) Ea20 Va20 Ca20 Aa20 (own_cod _ own_pRS) (own_up _ own_pRS) (by decide) Eb20 Vb20 Cb20 Ab20 (own_cod _ own_pADMIN) (own_up _ own_pADMIN) (by decide) (Sg.ext O1.2) hzc (by decide) (by decide)) q21a q21c (g := (mkF m 25 #[.val (.ref s1), .val (.ref t1), .val (.int (3 : Int32)), .val (.int ((0 : Int32) + (1 : Int32))), .val (.ref c_RS)] [(.ref s1), (.ref n_RS)])) rfl (by rw [hml]; rfl) (Steps.refl _) (argsL := [(.ref s1)]) (rest := []) (lenOf own_pd4 rfl) rfl (by show 2 * 0 + _ ≤ _; exact Nat.le_of_eq rfl) (hb hby own_d4_25) (fun _ _ => ⟨rfl, e19, (by decide : 1 + 0 ≤ _), (by decide : 3 + 0 ≤ _)⟩)
  dsimp only [Pt.U, Pt.locs, Pt.cells, Pt.slots] at X21 l21 y21 z21 st21 hQ21
  subst l21 y21 z21
  obtain ⟨hc21, rfl, e21⟩ := hQ21
  have hv21 : _ = some (Value.int 0) := hc21.elim (fun q => absurd q.2 (by decide)) (fun q => q.1)
  subst hv21
  have N21 := Fr.app N18 (Fr.nil n0)
  refine own_st (fun t k => st21.trans k) ?_
  show own_G _ _ _ _ _ _ _ (T21.setTop (mkF m 28 #[.val (.ref s1), .val (.ref t1), .val (.int (3 : Int32)), .val (.int ((0 : Int32) + (1 : Int32))), .val (.ref c_RS)] [(.int (0 : Int32))]))
  refine own_st (fun t k => XS.ifYes X21.here hx rfl (pc0 := 28) (pc' := 34) rfl (hb hby own_d4_28) rfl ((if0 _ _).trans (teq rfl).1) (by decide) (by decide) k) ?_
  show own_G _ _ _ _ _ _ _ (T21.setTop (mkF m 34 #[.val (.ref s1), .val (.ref t1), .val (.int (3 : Int32)), .val (.int ((0 : Int32) + (1 : Int32))), .val (.ref c_RS)] []))
  refine own_st (fun t k => XS.iinc X21.here hx rfl (hb hby own_d4_34) rfl (l' := #[.val (.ref s1), .val (.ref t1), .val (.int (3 : Int32)), .val (.int (((0 : Int32) + (1 : Int32)) + (1 : Int32))), .val (.ref c_RS)]) rfl k) ?_
  show own_G _ _ _ _ _ _ _ (T21.setTop (mkF m 37 #[.val (.ref s1), .val (.ref t1), .val (.int (3 : Int32)), .val (.int (((0 : Int32) + (1 : Int32)) + (1 : Int32))), .val (.ref c_RS)] []))
  refine own_st (fun t k => XS.goto X21.here hx rfl (pc0 := 37) (pc' := 9) rfl (hb hby own_d4_37) (by decide) (by decide) k) ?_
  show own_G _ _ _ _ _ _ _ (T21.setTop (mkF m 9 #[.val (.ref s1), .val (.ref t1), .val (.int (3 : Int32)), .val (.int (((0 : Int32) + (1 : Int32)) + (1 : Int32))), .val (.ref c_RS)] []))
  refine own_st (fun t k => XS.iloadN X21.here hx rfl (hb hby own_d4_9) rfl k) ?_
  show own_G _ _ _ _ _ _ _ (T21.setTop (mkF m 10 #[.val (.ref s1), .val (.ref t1), .val (.int (3 : Int32)), .val (.int (((0 : Int32) + (1 : Int32)) + (1 : Int32))), .val (.ref c_RS)] [(.int (((0 : Int32) + (1 : Int32)) + (1 : Int32)))]))
  refine own_st (fun t k => XS.iloadN X21.here hx rfl (hb hby own_d4_10) rfl k) ?_
  show own_G _ _ _ _ _ _ _ (T21.setTop (mkF m 11 #[.val (.ref s1), .val (.ref t1), .val (.int (3 : Int32)), .val (.int (((0 : Int32) + (1 : Int32)) + (1 : Int32))), .val (.ref c_RS)] [(.int (3 : Int32)), (.int (((0 : Int32) + (1 : Int32)) + (1 : Int32)))]))
  refine own_st (fun t k => XS.icmpNo X21.here hx rfl (hb hby own_d4_11) rfl (tlt (by decide)).2.1 k) ?_
  show own_G _ _ _ _ _ _ _ (T21.setTop (mkF m 14 #[.val (.ref s1), .val (.ref t1), .val (.int (3 : Int32)), .val (.int (((0 : Int32) + (1 : Int32)) + (1 : Int32))), .val (.ref c_RS)] []))
  refine own_st (fun t k => XS.aloadN X21.here hx rfl (hb hby own_d4_14) rfl rfl k) ?_
  show own_G _ _ _ _ _ _ _ (T21.setTop (mkF m 15 #[.val (.ref s1), .val (.ref t1), .val (.int (3 : Int32)), .val (.int (((0 : Int32) + (1 : Int32)) + (1 : Int32))), .val (.ref c_RS)] [(.ref t1)]))
  refine own_st (fun t k => XS.iloadN X21.here hx rfl (hb hby own_d4_15) rfl k) ?_
  show own_G _ _ _ _ _ _ _ (T21.setTop (mkF m 16 #[.val (.ref s1), .val (.ref t1), .val (.int (3 : Int32)), .val (.int (((0 : Int32) + (1 : Int32)) + (1 : Int32))), .val (.ref c_RS)] [(.int (((0 : Int32) + (1 : Int32)) + (1 : Int32))), (.ref t1)]))
  have hin2 : ¬ ((((0 : Int32) + (1 : Int32)) + (1 : Int32)) < 0 ∨ cl.slots.size ≤ ((((0 : Int32) + (1 : Int32)) + (1 : Int32))).toNatClampNeg) := inb_of Sz ⟨by decide, by decide⟩
  have hat2 : cl.slots[((((0 : Int32) + (1 : Int32)) + (1 : Int32))).toNatClampNeg]? = some (.ref c_ADMIN) := Has.at Hz hin2 rfl
  refine own_st (fun t k => X21.aaload hx (j := (((0 : Int32) + (1 : Int32)) + (1 : Int32))) (v := (.ref c_ADMIN)) (by rw [e21]; exact Ar.1) (State.isArrayOf_alike hZ.alike Ar.2.1) rfl Ar.2.2 hin2 hat2 (g := (mkF m 16 #[.val (.ref s1), .val (.ref t1), .val (.int (3 : Int32)), .val (.int (((0 : Int32) + (1 : Int32)) + (1 : Int32))), .val (.ref c_RS)] [(.int (((0 : Int32) + (1 : Int32)) + (1 : Int32))), (.ref t1)])) rfl rfl (hb hby own_d4_16) t k) ?_
  show own_G _ _ _ _ _ _ _ (T21.setTop (mkF m 17 #[.val (.ref s1), .val (.ref t1), .val (.int (3 : Int32)), .val (.int (((0 : Int32) + (1 : Int32)) + (1 : Int32))), .val (.ref c_RS)] [(.ref c_ADMIN)]))
  refine own_st (fun t k => XS.astore X21.here hx rfl (hb hby own_d4_17) rfl rfl (l' := #[.val (.ref s1), .val (.ref t1), .val (.int (3 : Int32)), .val (.int (((0 : Int32) + (1 : Int32)) + (1 : Int32))), .val (.ref c_ADMIN)]) rfl k) ?_
  show own_G _ _ _ _ _ _ _ (T21.setTop (mkF m 19 #[.val (.ref s1), .val (.ref t1), .val (.int (3 : Int32)), .val (.int (((0 : Int32) + (1 : Int32)) + (1 : Int32))), .val (.ref c_ADMIN)] []))
  refine own_st (fun t k => XS.aload X21.here hx rfl (hb hby own_d4_19) rfl rfl k) ?_
  show own_G _ _ _ _ _ _ _ (T21.setTop (mkF m 21 #[.val (.ref s1), .val (.ref t1), .val (.int (3 : Int32)), .val (.int (((0 : Int32) + (1 : Int32)) + (1 : Int32))), .val (.ref c_ADMIN)] [(.ref c_ADMIN)]))
  obtain ⟨T22, X22, e22, st22⟩ := getF X21 hx hZ hown (host := "") (Or.inl (hw _ (List.mem_of_getElem? (i := 54) rfl))) Via.refl e21 (Fn_ADMIN.ext O1.2) (g := (mkF m 21 #[.val (.ref s1), .val (.ref t1), .val (.int (3 : Int32)), .val (.int (((0 : Int32) + (1 : Int32)) + (1 : Int32))), .val (.ref c_ADMIN)] [(.ref c_ADMIN)])) rfl rfl (hb hby own_d4_21)
  refine own_st (fun t k => st22 t k) ?_
  show own_G _ _ _ _ _ _ _ (T22.setTop (mkF m 24 #[.val (.ref s1), .val (.ref t1), .val (.int (3 : Int32)), .val (.int (((0 : Int32) + (1 : Int32)) + (1 : Int32))), .val (.ref c_ADMIN)] [(.ref n_ADMIN)]))
  refine own_st (fun t k => XS.aloadN X22.here hx rfl (hb hby own_d4_24) rfl rfl k) ?_
  show own_G _ _ _ _ _ _ _ (T22.setTop (mkF m 25 #[.val (.ref s1), .val (.ref t1), .val (.int (3 : Int32)), .val (.int (((0 : Int32) + (1 : Int32)) + (1 : Int32))), .val (.ref c_ADMIN)] [(.ref s1), (.ref n_ADMIN)]))
  obtain ⟨Ea23, Ca23, ta23, ka23, Va23, Aa23⟩ := (id (N_ADMIN.ext O1.2))
  obtain ⟨Eb23, Cb23, tb23, kb23, Vb23, Ab23⟩ := (id Sy)
  obtain ⟨cq24, kq24, q24a, q24b, q24c⟩ := isOf hZ e22 Ea23
  obtain ⟨_, _, ⟨T24, L24, k24, n24⟩, -, X24, ⟨Lc24, hQ24, l24, y24, z24⟩, st24⟩ := X22.virtualBack hx (y := (⟨"java/lang/String", "equals", "(Ljava/lang/Object;)Z"⟩ : MethodName)) (z := (⟨"java/lang/String", "equals", "(Ljava/lang/Object;)Z"⟩ : MethodName)) hown (mvT hZ (hw _ (List.mem_of_getElem? (i := 56) rfl))) (mvT hZ (hw _ (List.mem_of_getElem? (i := 57) rfl))) (notFace_of_selects (args := #[]) (mvT hZ (hw _ (List.mem_of_getElem? (i := 59) rfl)))) (mvT hZ (hw _ (List.mem_of_getElem? (i := 59) rfl))) (mvT hZ (hw _ (List.mem_of_getElem? (i := 58) rfl))) (by decide) (StrChars.Road.eqW (W := 0) hZ (own_heq hw) (kI := 4) (hw _ (List.mem_of_getElem? (i := 6) rfl)) Ea23 Va23 Ca23 Aa23 (own_cod _ own_pADMIN) (own_up _ own_pADMIN) (by decide) Eb23 Vb23 Cb23 Ab23 (own_cod _ own_pADMIN) (own_up _ own_pADMIN) (by decide) (Sg.ext O1.2) hzc (by decide) (by decide)) q24a q24c (g := (mkF m 25 #[.val (.ref s1), .val (.ref t1), .val (.int (3 : Int32)), .val (.int (((0 : Int32) + (1 : Int32)) + (1 : Int32))), .val (.ref c_ADMIN)] [(.ref s1), (.ref n_ADMIN)])) rfl (by rw [hml]; rfl) (Steps.refl _) (argsL := [(.ref s1)]) (rest := []) (lenOf own_pd4 rfl) rfl (by show 2 * 0 + _ ≤ _; exact Nat.le_of_eq rfl) (hb hby own_d4_25) (fun _ _ => ⟨rfl, e22, (by decide : 1 + 0 ≤ _), (by decide : 3 + 0 ≤ _)⟩)
  dsimp only [Pt.U, Pt.locs, Pt.cells, Pt.slots] at X24 l24 y24 z24 st24 hQ24
  subst l24 y24 z24
  obtain ⟨hc24, rfl, e24⟩ := hQ24
  have hv24 : _ = some (Value.int 1) := hc24.elim (fun q => q.1) (fun q => absurd rfl q.2)
  subst hv24
  have N24 := Fr.app N21 (Fr.nil n0)
  refine own_st (fun t k => st24.trans k) ?_
  show own_G _ _ _ _ _ _ _ (T24.setTop (mkF m 28 #[.val (.ref s1), .val (.ref t1), .val (.int (3 : Int32)), .val (.int (((0 : Int32) + (1 : Int32)) + (1 : Int32))), .val (.ref c_ADMIN)] [(.int (1 : Int32))]))
  refine own_st (fun t k => XS.ifNo X24.here hx rfl (hb hby own_d4_28) rfl ((if0 _ _).trans (feq (by decide)).1) k) ?_
  show own_G _ _ _ _ _ _ _ (T24.setTop (mkF m 31 #[.val (.ref s1), .val (.ref t1), .val (.int (3 : Int32)), .val (.int (((0 : Int32) + (1 : Int32)) + (1 : Int32))), .val (.ref c_ADMIN)] []))
  refine own_st (fun t k => XS.aload X24.here hx rfl (hb hby own_d4_31) rfl rfl k) ?_
  show own_G _ _ _ _ _ _ _ (T24.setTop (mkF m 33 #[.val (.ref s1), .val (.ref t1), .val (.int (3 : Int32)), .val (.int (((0 : Int32) + (1 : Int32)) + (1 : Int32))), .val (.ref c_ADMIN)] [(.ref c_ADMIN)]))
  exact own_retA (ft := (.object "com/example/tessera/tessera/device/Role")) (w := (.ref c_ADMIN)) rfl rfl X24 hx Bd.returns (BodyLoose.notSynchronized Bd) (hb hby own_d4_33) (by decide) (by decide) ⟨rfl, N24, by rw [e24]; exact K15⟩
theorem own_d6_0 : decode prog_4_method_4_code 0 = .ok (.aload_n 0, 1) := by decide +kernel
theorem own_d6_1 : decode prog_4_method_4_code 1 = .ok (.getfield 32, 3) := by decide +kernel
theorem own_d6_4 : decode prog_4_method_4_code 4 = .ok (.areturn, 1) := by decide +kernel
theorem own_ef6 (m : MethodId) (a1 : Addr) : entryFrame m #[(.ref a1)] 1 = mkF m 0 #[.val (.ref a1)] [] := by first | (simp [entryFrame, mkF, argsToLocals, Value.category]; done) | rfl
set_option maxRecDepth 65536 in
set_option maxHeartbeats 40000000 in
theorem own_rm6 (l : Launch) (Z : State) (a0 : Array Value) (hw : ∀ d ∈ tables_1, d.before a0 Z = true) (ws : List Jvm.Cond) (a1 n1 : Addr) (h0 : Heap) (n0 : Nat) (Z0 : n0 ≤ h0.size) (F1 : Fld Z h0 a1 "com/example/tessera/tessera/device/Role" "name" "Ljava/lang/String;" (.ref n1)) :
    MetFree l (⟨"com/example/tessera/tessera/device/Role", "getName", "()Ljava/lang/String;"⟩ : MethodName) (head1 (Jvm.Cond.code (⟨"com/example/tessera/tessera/device/Role", "getName", "()Ljava/lang/String;"⟩ : MethodName) prog_4_method_4_code 1 (some (.object "java/lang/String")) :: ws) ({ frames := 0, cells := 0, slots := 0, locals := 0 } : Room)) (fun a U => a = #[(.ref a1)] ∧ Z.Warmed39 U.vm ∧ U.heap = h0) (fun _ _ _ _ _ => True) (fun _ U o U' => ∃ v L, o = .returned v ∧ own_Qp (some (.ref n1)) h0 n0 v U'.heap L ∧ FrameEnd U o U' L ({ frames := 0, cells := 0, slots := 0, locals := 0 } : Room).cells ({ frames := 0, cells := 0, slots := 0, locals := 0 } : Room).slots) := by
  refine MetFree.of_bodySF (plainFor_of_name own_pn0) hisR ?_
  intro p e s m args below meth c s₁ Bd hml0 hP hK
  obtain ⟨rfl, hZ, hh⟩ := hP
  have hx := Bd.exec
  have hby := Bd.bytes
  have hml : c.maxLocals = 1 := hml0
  have hown : s.vm.findClass "com/example/tessera/tessera/device/Role" = some m.cls := findClass_of_methodNamed Bd.named
  have hnm := (name_of_methodNamed Bd.named Bd.method).1
  have X0 : Stand p l e ({ frames := 0, cells := 0, slots := 0, locals := 0 } : Room) s m #[(.ref a1)] below meth c s₁ [] 0 0 := Stand.of_body Bd
  have e0 : s₁.heap = h0 := by rw [← hh, Bd.state]; rfl
  have N0 := Fr.nil n0
  refine own_in (Q := own_Qp (some (.ref n1)) h0 n0) ?_
  rw [own_ef6]
  show own_G _ _ _ _ _ _ _ (s₁.setTop (mkF m 0 #[.val (.ref a1)] []))
  refine own_st (fun t k => XS.aloadN X0.here hx rfl (hb hby own_d6_0) rfl rfl k) ?_
  show own_G _ _ _ _ _ _ _ (s₁.setTop (mkF m 1 #[.val (.ref a1)] [(.ref a1)]))
  obtain ⟨T25, X25, e25, st25⟩ := getF X0 hx hZ hown (host := "") (Or.inl (hw _ (List.mem_of_getElem? (i := 54) rfl))) Via.refl e0 F1 (g := (mkF m 1 #[.val (.ref a1)] [(.ref a1)])) rfl rfl (hb hby own_d6_1)
  refine own_st (fun t k => st25 t k) ?_
  show own_G _ _ _ _ _ _ _ (T25.setTop (mkF m 4 #[.val (.ref a1)] [(.ref n1)]))
  exact own_retA (ft := (.object "java/lang/String")) (w := (.ref n1)) rfl rfl X25 hx Bd.returns (BodyLoose.notSynchronized Bd) (hb hby own_d6_4) (by decide) (by decide) ⟨rfl, N0, e25⟩
theorem own_pn1 : plainName "com/example/tessera/tessera/device/RoleNamedPinLaw" = true := by first | (simp [plainName, overriddenIn]; done) | decide +kernel
theorem own_ef0 (m : MethodId) (p1 : Int32) : entryFrame m #[(.int p1)] maxLocals = mkF m 0 #[.val (.int p1), .unset, .unset, .unset, .unset, .unset] [] := by first | (simp [entryFrame, mkF, argsToLocals, Value.category, maxLocals]; done) | rfl
set_option maxRecDepth 65536 in
set_option maxHeartbeats 40000000 in
theorem own_rm0 (l : Launch) (Z : State) (a0 : Array Value) (hw : ∀ d ∈ tables_1, d.before a0 Z = true) (ws : List Jvm.Cond) (p1 : Int32) (va : Addr) (kv : ClassId) (c_CLIENT c_RS c_ADMIN n_CLIENT n_RS n_ADMIN : Addr) (zc : Int32) (h0 : Heap) (n0 : Nat) (Z0 : n0 ≤ h0.size) (O0 : Old Z n0 h0) (Sv : Sta Z Z.heap "com/example/tessera/tessera/device/Role" "$VALUES" "[Lcom/example/tessera/tessera/device/Role;" (.ref va)) (Vv : Arv Z Z.heap va kv (.object "com/example/tessera/tessera/device/Role") 3 [.ref c_CLIENT, .ref c_RS, .ref c_ADMIN] .null) (Ev : Exa Z Z.heap va "[Lcom/example/tessera/tessera/device/Role;") (Sg : Sta Z Z.heap "java/lang/String" "COMPACT_STRINGS" "Z" (.int zc)) (hzc : ¬ zc = 0) (Fn_CLIENT : Fld Z Z.heap c_CLIENT "com/example/tessera/tessera/device/Role" "name" "Ljava/lang/String;" (.ref n_CLIENT)) (N_CLIENT : own_S Z Z.heap n_CLIENT own_cCLIENT) (Fn_RS : Fld Z Z.heap c_RS "com/example/tessera/tessera/device/Role" "name" "Ljava/lang/String;" (.ref n_RS)) (N_RS : own_S Z Z.heap n_RS own_cRS) (Fn_ADMIN : Fld Z Z.heap c_ADMIN "com/example/tessera/tessera/device/Role" "name" "Ljava/lang/String;" (.ref n_ADMIN)) (N_ADMIN : own_S Z Z.heap n_ADMIN own_cADMIN) (S_CLIENT : Sta Z Z.heap "com/example/tessera/tessera/device/Role" "CLIENT" "Lcom/example/tessera/tessera/device/Role;" (.ref c_CLIENT)) (A_CLIENT : Exa Z Z.heap c_CLIENT "com/example/tessera/tessera/device/Role") (S_RS : Sta Z Z.heap "com/example/tessera/tessera/device/Role" "RS" "Lcom/example/tessera/tessera/device/Role;" (.ref c_RS)) (A_RS : Exa Z Z.heap c_RS "com/example/tessera/tessera/device/Role") (S_ADMIN : Sta Z Z.heap "com/example/tessera/tessera/device/Role" "ADMIN" "Lcom/example/tessera/tessera/device/Role;" (.ref c_ADMIN)) (A_ADMIN : Exa Z Z.heap c_ADMIN "com/example/tessera/tessera/device/Role") :
    MetFree l x (head1 (Jvm.Cond.code x code maxLocals ret :: ws) room_1) (fun a U => a = #[(.int p1)] ∧ Z.Warmed39 U.vm ∧ U.heap = h0) (fun _ _ _ _ _ => True) (fun _ U o U' => ∃ v L, o = .returned v ∧ own_Q0 n0 v U'.heap L ∧ FrameEnd U o U' L room_1.cells room_1.slots) := by
  refine MetFree.of_bodySF (plainFor_of_name own_pn1) hisR ?_
  intro p e s m args below meth c s₁ Bd hml0 hP hK
  obtain ⟨rfl, hZ, hh⟩ := hP
  have hx := Bd.exec
  have hby := Bd.bytes
  have hml : c.maxLocals = 6 := hml0
  have hown : s.vm.findClass "com/example/tessera/tessera/device/RoleNamedPinLaw" = some m.cls := findClass_of_methodNamed Bd.named
  have hnm := (name_of_methodNamed Bd.named Bd.method).1
  have X0 : Stand p l e room_1 s m #[(.int p1)] below meth c s₁ [] 0 0 := Stand.of_body Bd
  have e0 : s₁.heap = h0 := by rw [← hh, Bd.state]; rfl
  have N0 := Fr.nil n0
  refine own_in (Q := own_Q0 n0) ?_
  rw [own_ef0]
  show own_G _ _ _ _ _ _ _ (s₁.setTop (mkF m 0 #[.val (.int p1), .unset, .unset, .unset, .unset, .unset] []))
  refine own_st (fun t k => XS.iloadN X0.here hx rfl (hb hby at_0) rfl k) ?_
  show own_G _ _ _ _ _ _ _ (s₁.setTop (mkF m 1 #[.val (.int p1), .unset, .unset, .unset, .unset, .unset] [(.int p1)]))
  refine own_st (fun t k => X0.ldcInt hx hown (mvT hZ (hw _ (List.mem_of_getElem? (i := 0) rfl))) (g := (mkF m 1 #[.val (.int p1), .unset, .unset, .unset, .unset, .unset] [(.int p1)])) rfl (hb hby at_1) t k) ?_
  show own_G _ _ _ _ _ _ _ (s₁.setTop (mkF m 3 #[.val (.int p1), .unset, .unset, .unset, .unset, .unset] [(.int (2147483647 : Int32)), (.int p1)]))
  refine own_st (fun t k => XS.iand X0.here hx rfl (hb hby at_3) rfl k) ?_
  show own_G _ _ _ _ _ _ _ (s₁.setTop (mkF m 4 #[.val (.int p1), .unset, .unset, .unset, .unset, .unset] [(.int (p1 &&& (2147483647 : Int32)))]))
  refine own_st (fun t k => XS.iconst X0.here hx rfl (hb hby at_4) k) ?_
  show own_G _ _ _ _ _ _ _ (s₁.setTop (mkF m 5 #[.val (.int p1), .unset, .unset, .unset, .unset, .unset] [(.int (3 : Int32)), (.int (p1 &&& (2147483647 : Int32)))]))
  refine own_st (fun t k => iremM X0 hx rfl (hb hby at_5) rfl (by decide) k) ?_
  show own_G _ _ _ _ _ _ _ (s₁.setTop (mkF m 6 #[.val (.int p1), .unset, .unset, .unset, .unset, .unset] [(.int ((p1 &&& (2147483647 : Int32)) % (3 : Int32)))]))
  generalize h_kk : ((p1 &&& (2147483647 : Int32)) % (3 : Int32)) = kk
  show own_G _ _ _ _ _ _ _ (s₁.setTop (mkF m 6 #[.val (.int p1), .unset, .unset, .unset, .unset, .unset] [(.int kk)]))
  refine own_st (fun t k => XS.istoreN X0.here hx rfl (hb hby at_6) rfl (l' := #[.val (.int p1), .val (.int kk), .unset, .unset, .unset, .unset]) rfl k) ?_
  show own_G _ _ _ _ _ _ _ (s₁.setTop (mkF m 7 #[.val (.int p1), .val (.int kk), .unset, .unset, .unset, .unset] []))
  refine own_st (fun t k => XS.iloadN X0.here hx rfl (hb hby at_7) rfl k) ?_
  show own_G _ _ _ _ _ _ _ (s₁.setTop (mkF m 8 #[.val (.int p1), .val (.int kk), .unset, .unset, .unset, .unset] [(.int kk)]))
  by_cases h0k : kk = (0 : Int32)
  · refine own_st (fun t k => XS.ifNo X0.here hx rfl (hb hby at_8) rfl ((if0 _ _).trans (teq h0k).2) k) ?_
    show own_G _ _ _ _ _ _ _ (s₁.setTop (mkF m 11 #[.val (.int p1), .val (.int kk), .unset, .unset, .unset, .unset] []))
    refine own_st (fun t k => XS.bipush X0.here hx rfl (hb hby at_11) k) ?_
    show own_G _ _ _ _ _ _ _ (s₁.setTop (mkF m 13 #[.val (.int p1), .val (.int kk), .unset, .unset, .unset, .unset] [(.int (6 : Int32))]))
    obtain ⟨T26, h26, k26, X26, e26, E26, A26, st26⟩ := newP X0 hx hZ (hw _ (List.mem_of_getElem? (i := 1) rfl)) e0 (g := (mkF m 13 #[.val (.int p1), .val (.int kk), .unset, .unset, .unset, .unset] [(.int (6 : Int32))])) rfl (hb hby at_13) rfl (by decide) (cap := 6) (by decide) (by decide) (by decide) (by decide)
    obtain ⟨ca, g26⟩ : ∃ z, z = h0.size := ⟨_, rfl⟩
    rw [← g26] at A26 st26
    refine own_st (fun t k => st26 t k) ?_
    show own_G _ _ _ _ _ _ _ (T26.setTop (mkF m 15 #[.val (.int p1), .val (.int kk), .unset, .unset, .unset, .unset] [(.ref ca)]))
    have ge_ca : n0 ≤ ca := Nat.le_trans Z0 (Nat.le_of_eq g26.symm)
    have O_27 := O0.ext E26
    have Zz28 : n0 ≤ h26.size := Nat.le_trans Z0 E26.1
    have V_0 : Arv Z h26 ca k26 .char 6 [(.int 0), (.int 0), (.int 0), (.int 0), (.int 0), (.int 0)] (.int 0) := (Arv.new A26 (by decide)).pad (pad_rep [] (.int 0) 6)
    refine own_st (fun t k => XS.dup X26.here hx rfl (hb hby at_15) rfl rfl k) ?_
    show own_G _ _ _ _ _ _ _ (T26.setTop (mkF m 16 #[.val (.int p1), .val (.int kk), .unset, .unset, .unset, .unset] [(.ref ca), (.ref ca)]))
    refine own_st (fun t k => XS.iconst X26.here hx rfl (hb hby at_16) k) ?_
    show own_G _ _ _ _ _ _ _ (T26.setTop (mkF m 17 #[.val (.int p1), .val (.int kk), .unset, .unset, .unset, .unset] [(.int (0 : Int32)), (.ref ca), (.ref ca)]))
    refine own_st (fun t k => XS.bipush X26.here hx rfl (hb hby at_17) k) ?_
    show own_G _ _ _ _ _ _ _ (T26.setTop (mkF m 19 #[.val (.int p1), .val (.int kk), .unset, .unset, .unset, .unset] [(.int (99 : Int32)), (.int (0 : Int32)), (.ref ca), (.ref ca)]))
    obtain ⟨cl29, Ar29, q29, S29, M29, H29, G29⟩ := V_0
    have hin29 : ¬ ((0 : Int32) < 0 ∨ cl29.slots.size ≤ ((0 : Int32)).toNatClampNeg) := inb_of S29 ⟨by decide, by decide⟩
    obtain ⟨T30, h30, X30, e30, W30, st30⟩ := Jvm.RoadKit.stC X26 hx hZ e26 Ar29 (j := (0 : Int32)) hin29 (g := (mkF m 19 #[.val (.int p1), .val (.int kk), .unset, .unset, .unset, .unset] [(.int (99 : Int32)), (.int (0 : Int32)), (.ref ca), (.ref ca)])) rfl rfl (hb hby at_19)
    have N30 := Fr.snoc X30 N0 ge_ca
    refine own_st (fun t k => st30 t k) ?_
    show own_G _ _ _ _ _ _ _ (T30.setTop (mkF m 20 #[.val (.int p1), .val (.int kk), .unset, .unset, .unset, .unset] [(.ref ca)]))
    rw [show nar .char (99 : Int32) = 99 from by decide] at W30
    have V_30 : Arv Z h30 ca k26 .char 6 [(.int 99), (.int 0), (.int 0), (.int 0), (.int 0), (.int 0)] (.int 0) := Arv.set Ar29 q29 S29 M29 H29 G29 (by decide) W30 0 rfl (Nat.le_of_ble_eq_true rfl)
    have O_31 := O_27.wr W30 ge_ca
    have Zz32 : n0 ≤ h30.size := Nat.le_trans Zz28 (Keep.of_wr W30).1
    refine own_st (fun t k => XS.dup X30.here hx rfl (hb hby at_20) rfl rfl k) ?_
    show own_G _ _ _ _ _ _ _ (T30.setTop (mkF m 21 #[.val (.int p1), .val (.int kk), .unset, .unset, .unset, .unset] [(.ref ca), (.ref ca)]))
    refine own_st (fun t k => XS.iconst X30.here hx rfl (hb hby at_21) k) ?_
    show own_G _ _ _ _ _ _ _ (T30.setTop (mkF m 22 #[.val (.int p1), .val (.int kk), .unset, .unset, .unset, .unset] [(.int (1 : Int32)), (.ref ca), (.ref ca)]))
    refine own_st (fun t k => XS.bipush X30.here hx rfl (hb hby at_22) k) ?_
    show own_G _ _ _ _ _ _ _ (T30.setTop (mkF m 24 #[.val (.int p1), .val (.int kk), .unset, .unset, .unset, .unset] [(.int (108 : Int32)), (.int (1 : Int32)), (.ref ca), (.ref ca)]))
    obtain ⟨cl33, Ar33, q33, S33, M33, H33, G33⟩ := V_30
    have hin33 : ¬ ((1 : Int32) < 0 ∨ cl33.slots.size ≤ ((1 : Int32)).toNatClampNeg) := inb_of S33 ⟨by decide, by decide⟩
    obtain ⟨T34, h34, X34, e34, W34, st34⟩ := Jvm.RoadKit.stC X30 hx hZ e30 Ar33 (j := (1 : Int32)) hin33 (g := (mkF m 24 #[.val (.int p1), .val (.int kk), .unset, .unset, .unset, .unset] [(.int (108 : Int32)), (.int (1 : Int32)), (.ref ca), (.ref ca)])) rfl rfl (hb hby at_24)
    have N34 := Fr.snoc X34 N30 ge_ca
    refine own_st (fun t k => st34 t k) ?_
    show own_G _ _ _ _ _ _ _ (T34.setTop (mkF m 25 #[.val (.int p1), .val (.int kk), .unset, .unset, .unset, .unset] [(.ref ca)]))
    rw [show nar .char (108 : Int32) = 108 from by decide] at W34
    have V_34 : Arv Z h34 ca k26 .char 6 [(.int 99), (.int 108), (.int 0), (.int 0), (.int 0), (.int 0)] (.int 0) := Arv.set Ar33 q33 S33 M33 H33 G33 (by decide) W34 1 rfl (Nat.le_of_ble_eq_true rfl)
    have O_35 := O_31.wr W34 ge_ca
    have Zz36 : n0 ≤ h34.size := Nat.le_trans Zz32 (Keep.of_wr W34).1
    refine own_st (fun t k => XS.dup X34.here hx rfl (hb hby at_25) rfl rfl k) ?_
    show own_G _ _ _ _ _ _ _ (T34.setTop (mkF m 26 #[.val (.int p1), .val (.int kk), .unset, .unset, .unset, .unset] [(.ref ca), (.ref ca)]))
    refine own_st (fun t k => XS.iconst X34.here hx rfl (hb hby at_26) k) ?_
    show own_G _ _ _ _ _ _ _ (T34.setTop (mkF m 27 #[.val (.int p1), .val (.int kk), .unset, .unset, .unset, .unset] [(.int (2 : Int32)), (.ref ca), (.ref ca)]))
    refine own_st (fun t k => XS.bipush X34.here hx rfl (hb hby at_27) k) ?_
    show own_G _ _ _ _ _ _ _ (T34.setTop (mkF m 29 #[.val (.int p1), .val (.int kk), .unset, .unset, .unset, .unset] [(.int (105 : Int32)), (.int (2 : Int32)), (.ref ca), (.ref ca)]))
    obtain ⟨cl37, Ar37, q37, S37, M37, H37, G37⟩ := V_34
    have hin37 : ¬ ((2 : Int32) < 0 ∨ cl37.slots.size ≤ ((2 : Int32)).toNatClampNeg) := inb_of S37 ⟨by decide, by decide⟩
    obtain ⟨T38, h38, X38, e38, W38, st38⟩ := Jvm.RoadKit.stC X34 hx hZ e34 Ar37 (j := (2 : Int32)) hin37 (g := (mkF m 29 #[.val (.int p1), .val (.int kk), .unset, .unset, .unset, .unset] [(.int (105 : Int32)), (.int (2 : Int32)), (.ref ca), (.ref ca)])) rfl rfl (hb hby at_29)
    have N38 := Fr.snoc X38 N34 ge_ca
    refine own_st (fun t k => st38 t k) ?_
    show own_G _ _ _ _ _ _ _ (T38.setTop (mkF m 30 #[.val (.int p1), .val (.int kk), .unset, .unset, .unset, .unset] [(.ref ca)]))
    rw [show nar .char (105 : Int32) = 105 from by decide] at W38
    have V_38 : Arv Z h38 ca k26 .char 6 [(.int 99), (.int 108), (.int 105), (.int 0), (.int 0), (.int 0)] (.int 0) := Arv.set Ar37 q37 S37 M37 H37 G37 (by decide) W38 2 rfl (Nat.le_of_ble_eq_true rfl)
    have O_39 := O_35.wr W38 ge_ca
    have Zz40 : n0 ≤ h38.size := Nat.le_trans Zz36 (Keep.of_wr W38).1
    refine own_st (fun t k => XS.dup X38.here hx rfl (hb hby at_30) rfl rfl k) ?_
    show own_G _ _ _ _ _ _ _ (T38.setTop (mkF m 31 #[.val (.int p1), .val (.int kk), .unset, .unset, .unset, .unset] [(.ref ca), (.ref ca)]))
    refine own_st (fun t k => XS.iconst X38.here hx rfl (hb hby at_31) k) ?_
    show own_G _ _ _ _ _ _ _ (T38.setTop (mkF m 32 #[.val (.int p1), .val (.int kk), .unset, .unset, .unset, .unset] [(.int (3 : Int32)), (.ref ca), (.ref ca)]))
    refine own_st (fun t k => XS.bipush X38.here hx rfl (hb hby at_32) k) ?_
    show own_G _ _ _ _ _ _ _ (T38.setTop (mkF m 34 #[.val (.int p1), .val (.int kk), .unset, .unset, .unset, .unset] [(.int (101 : Int32)), (.int (3 : Int32)), (.ref ca), (.ref ca)]))
    obtain ⟨cl41, Ar41, q41, S41, M41, H41, G41⟩ := V_38
    have hin41 : ¬ ((3 : Int32) < 0 ∨ cl41.slots.size ≤ ((3 : Int32)).toNatClampNeg) := inb_of S41 ⟨by decide, by decide⟩
    obtain ⟨T42, h42, X42, e42, W42, st42⟩ := Jvm.RoadKit.stC X38 hx hZ e38 Ar41 (j := (3 : Int32)) hin41 (g := (mkF m 34 #[.val (.int p1), .val (.int kk), .unset, .unset, .unset, .unset] [(.int (101 : Int32)), (.int (3 : Int32)), (.ref ca), (.ref ca)])) rfl rfl (hb hby at_34)
    have N42 := Fr.snoc X42 N38 ge_ca
    refine own_st (fun t k => st42 t k) ?_
    show own_G _ _ _ _ _ _ _ (T42.setTop (mkF m 35 #[.val (.int p1), .val (.int kk), .unset, .unset, .unset, .unset] [(.ref ca)]))
    rw [show nar .char (101 : Int32) = 101 from by decide] at W42
    have V_42 : Arv Z h42 ca k26 .char 6 [(.int 99), (.int 108), (.int 105), (.int 101), (.int 0), (.int 0)] (.int 0) := Arv.set Ar41 q41 S41 M41 H41 G41 (by decide) W42 3 rfl (Nat.le_of_ble_eq_true rfl)
    have O_43 := O_39.wr W42 ge_ca
    have Zz44 : n0 ≤ h42.size := Nat.le_trans Zz40 (Keep.of_wr W42).1
    refine own_st (fun t k => XS.dup X42.here hx rfl (hb hby at_35) rfl rfl k) ?_
    show own_G _ _ _ _ _ _ _ (T42.setTop (mkF m 36 #[.val (.int p1), .val (.int kk), .unset, .unset, .unset, .unset] [(.ref ca), (.ref ca)]))
    refine own_st (fun t k => XS.iconst X42.here hx rfl (hb hby at_36) k) ?_
    show own_G _ _ _ _ _ _ _ (T42.setTop (mkF m 37 #[.val (.int p1), .val (.int kk), .unset, .unset, .unset, .unset] [(.int (4 : Int32)), (.ref ca), (.ref ca)]))
    refine own_st (fun t k => XS.bipush X42.here hx rfl (hb hby at_37) k) ?_
    show own_G _ _ _ _ _ _ _ (T42.setTop (mkF m 39 #[.val (.int p1), .val (.int kk), .unset, .unset, .unset, .unset] [(.int (110 : Int32)), (.int (4 : Int32)), (.ref ca), (.ref ca)]))
    obtain ⟨cl45, Ar45, q45, S45, M45, H45, G45⟩ := V_42
    have hin45 : ¬ ((4 : Int32) < 0 ∨ cl45.slots.size ≤ ((4 : Int32)).toNatClampNeg) := inb_of S45 ⟨by decide, by decide⟩
    obtain ⟨T46, h46, X46, e46, W46, st46⟩ := Jvm.RoadKit.stC X42 hx hZ e42 Ar45 (j := (4 : Int32)) hin45 (g := (mkF m 39 #[.val (.int p1), .val (.int kk), .unset, .unset, .unset, .unset] [(.int (110 : Int32)), (.int (4 : Int32)), (.ref ca), (.ref ca)])) rfl rfl (hb hby at_39)
    have N46 := Fr.snoc X46 N42 ge_ca
    refine own_st (fun t k => st46 t k) ?_
    show own_G _ _ _ _ _ _ _ (T46.setTop (mkF m 40 #[.val (.int p1), .val (.int kk), .unset, .unset, .unset, .unset] [(.ref ca)]))
    rw [show nar .char (110 : Int32) = 110 from by decide] at W46
    have V_46 : Arv Z h46 ca k26 .char 6 [(.int 99), (.int 108), (.int 105), (.int 101), (.int 110), (.int 0)] (.int 0) := Arv.set Ar45 q45 S45 M45 H45 G45 (by decide) W46 4 rfl (Nat.le_of_ble_eq_true rfl)
    have O_47 := O_43.wr W46 ge_ca
    have Zz48 : n0 ≤ h46.size := Nat.le_trans Zz44 (Keep.of_wr W46).1
    refine own_st (fun t k => XS.dup X46.here hx rfl (hb hby at_40) rfl rfl k) ?_
    show own_G _ _ _ _ _ _ _ (T46.setTop (mkF m 41 #[.val (.int p1), .val (.int kk), .unset, .unset, .unset, .unset] [(.ref ca), (.ref ca)]))
    refine own_st (fun t k => XS.iconst X46.here hx rfl (hb hby at_41) k) ?_
    show own_G _ _ _ _ _ _ _ (T46.setTop (mkF m 42 #[.val (.int p1), .val (.int kk), .unset, .unset, .unset, .unset] [(.int (5 : Int32)), (.ref ca), (.ref ca)]))
    refine own_st (fun t k => XS.bipush X46.here hx rfl (hb hby at_42) k) ?_
    show own_G _ _ _ _ _ _ _ (T46.setTop (mkF m 44 #[.val (.int p1), .val (.int kk), .unset, .unset, .unset, .unset] [(.int (116 : Int32)), (.int (5 : Int32)), (.ref ca), (.ref ca)]))
    obtain ⟨cl49, Ar49, q49, S49, M49, H49, G49⟩ := V_46
    have hin49 : ¬ ((5 : Int32) < 0 ∨ cl49.slots.size ≤ ((5 : Int32)).toNatClampNeg) := inb_of S49 ⟨by decide, by decide⟩
    obtain ⟨T50, h50, X50, e50, W50, st50⟩ := Jvm.RoadKit.stC X46 hx hZ e46 Ar49 (j := (5 : Int32)) hin49 (g := (mkF m 44 #[.val (.int p1), .val (.int kk), .unset, .unset, .unset, .unset] [(.int (116 : Int32)), (.int (5 : Int32)), (.ref ca), (.ref ca)])) rfl rfl (hb hby at_44)
    have N50 := Fr.snoc X50 N46 ge_ca
    refine own_st (fun t k => st50 t k) ?_
    show own_G _ _ _ _ _ _ _ (T50.setTop (mkF m 45 #[.val (.int p1), .val (.int kk), .unset, .unset, .unset, .unset] [(.ref ca)]))
    rw [show nar .char (116 : Int32) = 116 from by decide] at W50
    have V_50 : Arv Z h50 ca k26 .char 6 [(.int 99), (.int 108), (.int 105), (.int 101), (.int 110), (.int 116)] (.int 0) := Arv.set Ar49 q49 S49 M49 H49 G49 (by decide) W50 5 rfl (Nat.le_of_ble_eq_true rfl)
    have O_51 := O_47.wr W50 ge_ca
    have Zz52 : n0 ≤ h50.size := Nat.le_trans Zz48 (Keep.of_wr W50).1
    refine own_st (fun t k => XS.astoreN X50.here hx rfl (hb hby at_45) rfl rfl (l' := #[.val (.int p1), .val (.int kk), .val (.ref ca), .unset, .unset, .unset]) rfl k) ?_
    show own_G _ _ _ _ _ _ _ (T50.setTop (mkF m 46 #[.val (.int p1), .val (.int kk), .val (.ref ca), .unset, .unset, .unset] []))
    obtain ⟨T53, X53, e53, st53⟩ := getS2 X50 hx hZ hown (host := "") (Or.inl (hw _ (List.mem_of_getElem? (i := 2) rfl))) Via.refl e50 (S_CLIENT.ext O_51.2) (g := (mkF m 46 #[.val (.int p1), .val (.int kk), .val (.ref ca), .unset, .unset, .unset] [])) rfl (hb hby at_46)
    refine own_st (fun t k => st53 t k) ?_
    show own_G _ _ _ _ _ _ _ (T53.setTop (mkF m 49 #[.val (.int p1), .val (.int kk), .val (.ref ca), .unset, .unset, .unset] [(.ref c_CLIENT)]))
    refine own_st (fun t k => XS.astoreN X53.here hx rfl (hb hby at_49) rfl rfl (l' := #[.val (.int p1), .val (.int kk), .val (.ref ca), .val (.ref c_CLIENT), .unset, .unset]) rfl k) ?_
    show own_G _ _ _ _ _ _ _ (T53.setTop (mkF m 50 #[.val (.int p1), .val (.int kk), .val (.ref ca), .val (.ref c_CLIENT), .unset, .unset] []))
    refine own_st (fun t k => XS.goto X53.here hx rfl (pc0 := 50) (pc' := 112) rfl (hb hby at_50) (by decide) (by decide) k) ?_
    show own_G _ _ _ _ _ _ _ (T53.setTop (mkF m 112 #[.val (.int p1), .val (.int kk), .val (.ref ca), .val (.ref c_CLIENT), .unset, .unset] []))
    obtain ⟨T54, h54, X54, e54, E54, A54, D54, -, st54⟩ := newO X53 hx hZ hown (hw _ (List.mem_of_getElem? (i := 5) rfl)) (hw _ (List.mem_of_getElem? (i := 6) rfl)) (hw _ (List.mem_of_getElem? (i := 7) rfl)) e53 (g := (mkF m 112 #[.val (.int p1), .val (.int kk), .val (.ref ca), .val (.ref c_CLIENT), .unset, .unset] [])) rfl (hb hby at_112) (by decide) (by decide)
    obtain ⟨sx, g54⟩ : ∃ z, z = h50.size := ⟨_, rfl⟩
    rw [← g54] at A54 D54 st54
    refine own_st (fun t k => st54 t k) ?_
    show own_G _ _ _ _ _ _ _ (T54.setTop (mkF m 115 #[.val (.int p1), .val (.int kk), .val (.ref ca), .val (.ref c_CLIENT), .unset, .unset] [(.ref sx)]))
    have ge_sx : n0 ≤ sx := Nat.le_trans Zz52 (Nat.le_of_eq g54.symm)
    have ne_ca_sx : ca ≠ sx := Nat.ne_of_lt (Nat.lt_of_lt_of_le V_50.lt (Nat.le_of_eq g54.symm))
    have O_55 := O_51.ext E54
    have V_56 := V_50.ext E54
    have Zz57 : n0 ≤ h54.size := Nat.le_trans Zz52 E54.1
    have Fv : Fld Z h54 sx "java/lang/String" "value" "[B" .null := D54 (Or.inr (hw _ (List.mem_of_getElem? (i := 33) rfl))) (ty := .array .byte) (by decide)
    have Fc : Fld Z h54 sx "java/lang/String" "coder" "B" (.int 0) := D54 (Or.inr (hw _ (List.mem_of_getElem? (i := 31) rfl))) (ty := .byte) (by decide)
    refine own_st (fun t k => XS.dup X54.here hx rfl (hb hby at_115) rfl rfl k) ?_
    show own_G _ _ _ _ _ _ _ (T54.setTop (mkF m 116 #[.val (.int p1), .val (.int kk), .val (.ref ca), .val (.ref c_CLIENT), .unset, .unset] [(.ref sx), (.ref sx)]))
    refine own_st (fun t k => XS.aloadN X54.here hx rfl (hb hby at_116) rfl rfl k) ?_
    show own_G _ _ _ _ _ _ _ (T54.setTop (mkF m 117 #[.val (.int p1), .val (.int kk), .val (.ref ca), .val (.ref c_CLIENT), .unset, .unset] [(.ref ca), (.ref sx), (.ref sx)]))
    obtain ⟨_, _, ⟨T58, L58, k58, n58⟩, -, X58, ⟨Lc58, hQ58, l58, y58, z58⟩, st58⟩ := X54.specialBack hx (y := (⟨"java/lang/String", "<init>", "([C)V"⟩ : MethodName)) rfl hown (mvT hZ (hw _ (List.mem_of_getElem? (i := 8) rfl))) (mvT hZ (hw _ (List.mem_of_getElem? (i := 9) rfl))) (mvT hZ (hw _ (List.mem_of_getElem? (i := 10) rfl))) (by decide) (StrChars.Road.backV (W := 1) hZ (own_hws hw) (kI := 4) (hw _ (List.mem_of_getElem? (i := 6) rfl)) (cs := own_cCLIENT) (bs := own_cCLIENT.map (fun c => c.toInt8.toInt32)) (n := 6) ge_sx Zz57 A54 Fv Fc V_56 (Sg.ext O_55.2) hzc rfl rfl (by decide) (by decide) own_pCLIENT rfl (by decide) (by decide)) (g := (mkF m 117 #[.val (.int p1), .val (.int kk), .val (.ref ca), .val (.ref c_CLIENT), .unset, .unset] [(.ref ca), (.ref sx), (.ref sx)])) rfl (by rw [hml]; rfl) (Steps.refl _) (a := sx) (argsL := [(.ref ca)]) (rest := [(.ref sx)]) (lenOf own_pd3 rfl) rfl (by show 2 * 0 + _ ≤ _; exact Nat.le_of_eq rfl) (hb hby at_117) (fun _ _ => ⟨rfl, e54, (by decide : 2 + 1 ≤ _), (by decide : 10 + 6 ≤ _)⟩)
    dsimp only [Pt.U, Pt.locs, Pt.cells, Pt.slots] at X58 l58 y58 z58 st58 hQ58
    subst l58 y58 z58
    obtain ⟨rfl, N58q, K58, Es58, Co58, ts58, kb58, gt58, st158, nt58, Va58, Av58⟩ := hQ58
    have N58 := Fr.app N50 N58q
    refine own_st (fun t k => st58.trans k) ?_
    show own_G _ _ _ _ _ _ _ (T58.setTop (mkF m 120 #[.val (.int p1), .val (.int kk), .val (.ref ca), .val (.ref c_CLIENT), .unset, .unset] [(.ref sx)]))
    have O_59 := O_55.keep K58 (allS ge_sx all0)
    have V_60 := V_56.keep K58 (ninS ne_ca_sx nin0)
    have Zz61 : n0 ≤ _ := Nat.le_trans Zz57 K58.1
    have Sx : own_S Z T58.heap sx own_cCLIENT := ⟨Es58, Co58, ts58, kb58, Va58, Av58⟩
    refine own_st (fun t k => XS.astore X58.here hx rfl (hb hby at_120) rfl rfl (l' := #[.val (.int p1), .val (.int kk), .val (.ref ca), .val (.ref c_CLIENT), .val (.ref sx), .unset]) rfl k) ?_
    show own_G _ _ _ _ _ _ _ (T58.setTop (mkF m 122 #[.val (.int p1), .val (.int kk), .val (.ref ca), .val (.ref c_CLIENT), .val (.ref sx), .unset] []))
    refine own_st (fun t k => XS.aload X58.here hx rfl (hb hby at_122) rfl rfl k) ?_
    show own_G _ _ _ _ _ _ _ (T58.setTop (mkF m 124 #[.val (.int p1), .val (.int kk), .val (.ref ca), .val (.ref c_CLIENT), .val (.ref sx), .unset] [(.ref sx)]))
    obtain ⟨_, _, ⟨T62, L62, k62, n62⟩, -, X62, ⟨Lc62, hQ62, l62, y62, z62⟩, st62⟩ := Jvm.LawKit.callS X58 hx (y := (⟨"com/example/tessera/tessera/device/Role", "named", "(Ljava/lang/String;)Lcom/example/tessera/tessera/device/Role;"⟩ : MethodName)) hown (mvT hZ (hw _ (List.mem_of_getElem? (i := 34) rfl))) (mvT hZ (hw _ (List.mem_of_getElem? (i := 35) rfl))) (mvT hZ (hw _ (List.mem_of_getElem? (i := 3) rfl))) (mvT hZ (hw _ (List.mem_of_getElem? (i := 36) rfl))) (by decide) (backOf (W := 0) (own_rm2 l Z a0 hw [] sx va kv c_CLIENT c_RS c_ADMIN n_CLIENT n_RS n_ADMIN zc T58.heap n0 Zz61 O_59 Sv Vv Ev Sg hzc Fn_CLIENT N_CLIENT Fn_RS N_RS Fn_ADMIN N_ADMIN Sx) hZ (hw _ (List.mem_of_getElem? (i := 36) rfl)) (hw _ (List.mem_of_getElem? (i := 3) rfl)) (by decide) (by decide)) (g := (mkF m 124 #[.val (.int p1), .val (.int kk), .val (.ref ca), .val (.ref c_CLIENT), .val (.ref sx), .unset] [(.ref sx)])) rfl (by rw [hml]; rfl) (argsL := [(.ref sx)]) (rest := []) (lenOf own_pd1 rfl) rfl (by show 2 * 0 + _ ≤ _; exact Nat.le_of_eq rfl) (hb hby at_124) (fun _ _ => ⟨rfl, rfl, (by decide : 3 + 1 ≤ _), (by decide : 16 + 3 ≤ _)⟩)
    dsimp only [Pt.U, Pt.locs, Pt.cells, Pt.slots] at X62 l62 y62 z62 st62 hQ62
    subst l62 y62 z62
    obtain ⟨rfl, N62q, K62⟩ := hQ62
    have N62 := Fr.app N58 N62q
    refine own_st (fun t k => st62 t k) ?_
    show own_G _ _ _ _ _ _ _ (T62.setTop (mkF m 127 #[.val (.int p1), .val (.int kk), .val (.ref ca), .val (.ref c_CLIENT), .val (.ref sx), .unset] [(.ref c_CLIENT)]))
    have O_63 := O_59.keep K62 all0
    have V_64 := V_60.keep K62 nin0
    have Zz65 : n0 ≤ _ := Nat.le_trans Zz61 K62.1
    have Sy := Sx.keep0 K62
    refine own_st (fun t k => XS.astore X62.here hx rfl (hb hby at_127) rfl rfl (l' := #[.val (.int p1), .val (.int kk), .val (.ref ca), .val (.ref c_CLIENT), .val (.ref sx), .val (.ref c_CLIENT)]) rfl k) ?_
    show own_G _ _ _ _ _ _ _ (T62.setTop (mkF m 129 #[.val (.int p1), .val (.int kk), .val (.ref ca), .val (.ref c_CLIENT), .val (.ref sx), .val (.ref c_CLIENT)] []))
    refine own_st (fun t k => XS.aload X62.here hx rfl (hb hby at_129) rfl rfl k) ?_
    show own_G _ _ _ _ _ _ _ (T62.setTop (mkF m 131 #[.val (.int p1), .val (.int kk), .val (.ref ca), .val (.ref c_CLIENT), .val (.ref sx), .val (.ref c_CLIENT)] [(.ref c_CLIENT)]))
    refine own_st (fun t k => XS.aloadN X62.here hx rfl (hb hby at_131) rfl rfl k) ?_
    show own_G _ _ _ _ _ _ _ (T62.setTop (mkF m 132 #[.val (.int p1), .val (.int kk), .val (.ref ca), .val (.ref c_CLIENT), .val (.ref sx), .val (.ref c_CLIENT)] [(.ref c_CLIENT), (.ref c_CLIENT)]))
    refine own_st (fun t k => Jvm.RoadKit.acmp (g := (mkF m 132 #[.val (.int p1), .val (.int kk), .val (.ref ca), .val (.ref c_CLIENT), .val (.ref sx), .val (.ref c_CLIENT)] [(.ref c_CLIENT), (.ref c_CLIENT)])) X62 hx rfl rfl rfl (pc0 := 132) (pc' := 135) (same := true) rfl (hb hby at_132) rfl (decide_eq_true (congrArg Value.ref rfl)) (by decide) (by decide) k) ?_
    show own_G _ _ _ _ _ _ _ (T62.setTop (mkF m 135 #[.val (.int p1), .val (.int kk), .val (.ref ca), .val (.ref c_CLIENT), .val (.ref sx), .val (.ref c_CLIENT)] []))
    refine own_st (fun t k => XS.aloadN X62.here hx rfl (hb hby at_135) rfl rfl k) ?_
    show own_G _ _ _ _ _ _ _ (T62.setTop (mkF m 136 #[.val (.int p1), .val (.int kk), .val (.ref ca), .val (.ref c_CLIENT), .val (.ref sx), .val (.ref c_CLIENT)] [(.ref c_CLIENT)]))
    obtain ⟨cq66, kq66, q66a, q66b, q66c⟩ := isOf hZ rfl (A_CLIENT.ext O_63.2)
    obtain ⟨_, _, ⟨T66, L66, k66, n66⟩, -, X66, ⟨Lc66, hQ66, l66, y66, z66⟩, st66⟩ := X62.virtualBack hx (y := (⟨"com/example/tessera/tessera/device/Role", "getName", "()Ljava/lang/String;"⟩ : MethodName)) (z := (⟨"com/example/tessera/tessera/device/Role", "getName", "()Ljava/lang/String;"⟩ : MethodName)) hown (mvT hZ (hw _ (List.mem_of_getElem? (i := 66) rfl))) (mvT hZ (hw _ (List.mem_of_getElem? (i := 67) rfl))) (notFace_of_selects (args := #[]) (mvT hZ (hw _ (List.mem_of_getElem? (i := 69) rfl)))) (mvT hZ (hw _ (List.mem_of_getElem? (i := 69) rfl))) (mvT hZ (hw _ (List.mem_of_getElem? (i := 68) rfl))) (by decide) (backOf (W := 0) (own_rm6 l Z a0 hw [] c_CLIENT n_CLIENT T62.heap n0 Zz65 (Fn_CLIENT.ext O_63.2)) hZ (hw _ (List.mem_of_getElem? (i := 70) rfl)) (hw _ (List.mem_of_getElem? (i := 3) rfl)) (by decide) (by decide)) q66a q66c (g := (mkF m 136 #[.val (.int p1), .val (.int kk), .val (.ref ca), .val (.ref c_CLIENT), .val (.ref sx), .val (.ref c_CLIENT)] [(.ref c_CLIENT)])) rfl (by rw [hml]; rfl) (Steps.refl _) (argsL := []) (rest := []) (lenOf own_pd2 rfl) rfl (by show 2 * 0 + _ ≤ _; exact Nat.le_of_eq rfl) (hb hby at_136) (fun _ _ => ⟨rfl, rfl, (by decide : 4 + 0 ≤ _), (by decide : 19 + 0 ≤ _)⟩)
    dsimp only [Pt.U, Pt.locs, Pt.cells, Pt.slots] at X66 l66 y66 z66 st66 hQ66
    subst l66 y66 z66
    obtain ⟨rfl, N66q, e66⟩ := hQ66
    have N66 := Fr.app N62 N66q
    refine own_st (fun t k => st66.trans k) ?_
    show own_G _ _ _ _ _ _ _ (T66.setTop (mkF m 139 #[.val (.int p1), .val (.int kk), .val (.ref ca), .val (.ref c_CLIENT), .val (.ref sx), .val (.ref c_CLIENT)] [(.ref n_CLIENT)]))
    refine own_st (fun t k => XS.aload X66.here hx rfl (hb hby at_139) rfl rfl k) ?_
    show own_G _ _ _ _ _ _ _ (T66.setTop (mkF m 141 #[.val (.int p1), .val (.int kk), .val (.ref ca), .val (.ref c_CLIENT), .val (.ref sx), .val (.ref c_CLIENT)] [(.ref sx), (.ref n_CLIENT)]))
    obtain ⟨Ea67, Ca67, ta67, ka67, Va67, Aa67⟩ := (id (N_CLIENT.ext O_63.2))
    obtain ⟨Eb67, Cb67, tb67, kb67, Vb67, Ab67⟩ := (id Sy)
    obtain ⟨cq68, kq68, q68a, q68b, q68c⟩ := isOf hZ e66 Ea67
    obtain ⟨_, _, ⟨T68, L68, k68, n68⟩, -, X68, ⟨Lc68, hQ68, l68, y68, z68⟩, st68⟩ := X66.virtualBack hx (y := (⟨"java/lang/String", "equals", "(Ljava/lang/Object;)Z"⟩ : MethodName)) (z := (⟨"java/lang/String", "equals", "(Ljava/lang/Object;)Z"⟩ : MethodName)) hown (mvT hZ (hw _ (List.mem_of_getElem? (i := 71) rfl))) (mvT hZ (hw _ (List.mem_of_getElem? (i := 57) rfl))) (notFace_of_selects (args := #[]) (mvT hZ (hw _ (List.mem_of_getElem? (i := 59) rfl)))) (mvT hZ (hw _ (List.mem_of_getElem? (i := 59) rfl))) (mvT hZ (hw _ (List.mem_of_getElem? (i := 58) rfl))) (by decide) (StrChars.Road.eqW (W := 0) hZ (own_heq hw) (kI := 4) (hw _ (List.mem_of_getElem? (i := 6) rfl)) Ea67 Va67 Ca67 Aa67 (own_cod _ own_pCLIENT) (own_up _ own_pCLIENT) (by decide) Eb67 Vb67 Cb67 Ab67 (own_cod _ own_pCLIENT) (own_up _ own_pCLIENT) (by decide) (Sg.ext O_63.2) hzc (by decide) (by decide)) q68a q68c (g := (mkF m 141 #[.val (.int p1), .val (.int kk), .val (.ref ca), .val (.ref c_CLIENT), .val (.ref sx), .val (.ref c_CLIENT)] [(.ref sx), (.ref n_CLIENT)])) rfl (by rw [hml]; rfl) (Steps.refl _) (argsL := [(.ref sx)]) (rest := []) (lenOf own_pd4 rfl) rfl (by show 2 * 0 + _ ≤ _; exact Nat.le_of_eq rfl) (hb hby at_141) (fun _ _ => ⟨rfl, e66, (by decide : 4 + 0 ≤ _), (by decide : 19 + 0 ≤ _)⟩)
    dsimp only [Pt.U, Pt.locs, Pt.cells, Pt.slots] at X68 l68 y68 z68 st68 hQ68
    subst l68 y68 z68
    obtain ⟨hc68, rfl, e68⟩ := hQ68
    have hv68 : _ = some (Value.int 1) := hc68.elim (fun q => q.1) (fun q => absurd rfl q.2)
    subst hv68
    have N68 := Fr.app N66 (Fr.nil n0)
    refine own_st (fun t k => st68.trans k) ?_
    show own_G _ _ _ _ _ _ _ (T68.setTop (mkF m 144 #[.val (.int p1), .val (.int kk), .val (.ref ca), .val (.ref c_CLIENT), .val (.ref sx), .val (.ref c_CLIENT)] [(.int (1 : Int32))]))
    refine own_st (fun t k => XS.ifNo X68.here hx rfl (hb hby at_144) rfl ((if0 _ _).trans (feq (by decide)).1) k) ?_
    show own_G _ _ _ _ _ _ _ (T68.setTop (mkF m 147 #[.val (.int p1), .val (.int kk), .val (.ref ca), .val (.ref c_CLIENT), .val (.ref sx), .val (.ref c_CLIENT)] []))
    refine own_st (fun t k => XS.iconst X68.here hx rfl (hb hby at_147) k) ?_
    show own_G _ _ _ _ _ _ _ (T68.setTop (mkF m 148 #[.val (.int p1), .val (.int kk), .val (.ref ca), .val (.ref c_CLIENT), .val (.ref sx), .val (.ref c_CLIENT)] [(.int (1 : Int32))]))
    refine own_st (fun t k => XS.goto X68.here hx rfl (pc0 := 148) (pc' := 152) rfl (hb hby at_148) (by decide) (by decide) k) ?_
    show own_G _ _ _ _ _ _ _ (T68.setTop (mkF m 152 #[.val (.int p1), .val (.int kk), .val (.ref ca), .val (.ref c_CLIENT), .val (.ref sx), .val (.ref c_CLIENT)] [(.int (1 : Int32))]))
    exact own_retN (t := .boolean) (by simp) X68 hx Bd.returns (BodyLoose.notSynchronized Bd) (hb hby at_152) (by decide) (by decide) ⟨rfl, N68⟩
  · refine own_st (fun t k => XS.ifYes X0.here hx rfl (pc0 := 8) (pc' := 53) rfl (hb hby at_8) rfl ((if0 _ _).trans (feq h0k).2) (by decide) (by decide) k) ?_
    show own_G _ _ _ _ _ _ _ (s₁.setTop (mkF m 53 #[.val (.int p1), .val (.int kk), .unset, .unset, .unset, .unset] []))
    refine own_st (fun t k => XS.iloadN X0.here hx rfl (hb hby at_53) rfl k) ?_
    show own_G _ _ _ _ _ _ _ (s₁.setTop (mkF m 54 #[.val (.int p1), .val (.int kk), .unset, .unset, .unset, .unset] [(.int kk)]))
    refine own_st (fun t k => XS.iconst X0.here hx rfl (hb hby at_54) k) ?_
    show own_G _ _ _ _ _ _ _ (s₁.setTop (mkF m 55 #[.val (.int p1), .val (.int kk), .unset, .unset, .unset, .unset] [(.int (1 : Int32)), (.int kk)]))
    by_cases h1k : kk = (1 : Int32)
    · refine own_st (fun t k => XS.icmpNo X0.here hx rfl (hb hby at_55) rfl (teq h1k).2 k) ?_
      show own_G _ _ _ _ _ _ _ (s₁.setTop (mkF m 58 #[.val (.int p1), .val (.int kk), .unset, .unset, .unset, .unset] []))
      refine own_st (fun t k => XS.iconst X0.here hx rfl (hb hby at_58) k) ?_
      show own_G _ _ _ _ _ _ _ (s₁.setTop (mkF m 59 #[.val (.int p1), .val (.int kk), .unset, .unset, .unset, .unset] [(.int (2 : Int32))]))
      obtain ⟨T69, h69, k69, X69, e69, E69, A69, st69⟩ := newP X0 hx hZ (hw _ (List.mem_of_getElem? (i := 1) rfl)) e0 (g := (mkF m 59 #[.val (.int p1), .val (.int kk), .unset, .unset, .unset, .unset] [(.int (2 : Int32))])) rfl (hb hby at_59) rfl (by decide) (cap := 2) (by decide) (by decide) (by decide) (by decide)
      obtain ⟨ca, g69⟩ : ∃ z, z = h0.size := ⟨_, rfl⟩
      rw [← g69] at A69 st69
      refine own_st (fun t k => st69 t k) ?_
      show own_G _ _ _ _ _ _ _ (T69.setTop (mkF m 61 #[.val (.int p1), .val (.int kk), .unset, .unset, .unset, .unset] [(.ref ca)]))
      have ge_ca : n0 ≤ ca := Nat.le_trans Z0 (Nat.le_of_eq g69.symm)
      have O_70 := O0.ext E69
      have Zz71 : n0 ≤ h69.size := Nat.le_trans Z0 E69.1
      have V_0 : Arv Z h69 ca k69 .char 2 [(.int 0), (.int 0)] (.int 0) := (Arv.new A69 (by decide)).pad (pad_rep [] (.int 0) 2)
      refine own_st (fun t k => XS.dup X69.here hx rfl (hb hby at_61) rfl rfl k) ?_
      show own_G _ _ _ _ _ _ _ (T69.setTop (mkF m 62 #[.val (.int p1), .val (.int kk), .unset, .unset, .unset, .unset] [(.ref ca), (.ref ca)]))
      refine own_st (fun t k => XS.iconst X69.here hx rfl (hb hby at_62) k) ?_
      show own_G _ _ _ _ _ _ _ (T69.setTop (mkF m 63 #[.val (.int p1), .val (.int kk), .unset, .unset, .unset, .unset] [(.int (0 : Int32)), (.ref ca), (.ref ca)]))
      refine own_st (fun t k => XS.bipush X69.here hx rfl (hb hby at_63) k) ?_
      show own_G _ _ _ _ _ _ _ (T69.setTop (mkF m 65 #[.val (.int p1), .val (.int kk), .unset, .unset, .unset, .unset] [(.int (114 : Int32)), (.int (0 : Int32)), (.ref ca), (.ref ca)]))
      obtain ⟨cl72, Ar72, q72, S72, M72, H72, G72⟩ := V_0
      have hin72 : ¬ ((0 : Int32) < 0 ∨ cl72.slots.size ≤ ((0 : Int32)).toNatClampNeg) := inb_of S72 ⟨by decide, by decide⟩
      obtain ⟨T73, h73, X73, e73, W73, st73⟩ := Jvm.RoadKit.stC X69 hx hZ e69 Ar72 (j := (0 : Int32)) hin72 (g := (mkF m 65 #[.val (.int p1), .val (.int kk), .unset, .unset, .unset, .unset] [(.int (114 : Int32)), (.int (0 : Int32)), (.ref ca), (.ref ca)])) rfl rfl (hb hby at_65)
      have N73 := Fr.snoc X73 N0 ge_ca
      refine own_st (fun t k => st73 t k) ?_
      show own_G _ _ _ _ _ _ _ (T73.setTop (mkF m 66 #[.val (.int p1), .val (.int kk), .unset, .unset, .unset, .unset] [(.ref ca)]))
      rw [show nar .char (114 : Int32) = 114 from by decide] at W73
      have V_73 : Arv Z h73 ca k69 .char 2 [(.int 114), (.int 0)] (.int 0) := Arv.set Ar72 q72 S72 M72 H72 G72 (by decide) W73 0 rfl (Nat.le_of_ble_eq_true rfl)
      have O_74 := O_70.wr W73 ge_ca
      have Zz75 : n0 ≤ h73.size := Nat.le_trans Zz71 (Keep.of_wr W73).1
      refine own_st (fun t k => XS.dup X73.here hx rfl (hb hby at_66) rfl rfl k) ?_
      show own_G _ _ _ _ _ _ _ (T73.setTop (mkF m 67 #[.val (.int p1), .val (.int kk), .unset, .unset, .unset, .unset] [(.ref ca), (.ref ca)]))
      refine own_st (fun t k => XS.iconst X73.here hx rfl (hb hby at_67) k) ?_
      show own_G _ _ _ _ _ _ _ (T73.setTop (mkF m 68 #[.val (.int p1), .val (.int kk), .unset, .unset, .unset, .unset] [(.int (1 : Int32)), (.ref ca), (.ref ca)]))
      refine own_st (fun t k => XS.bipush X73.here hx rfl (hb hby at_68) k) ?_
      show own_G _ _ _ _ _ _ _ (T73.setTop (mkF m 70 #[.val (.int p1), .val (.int kk), .unset, .unset, .unset, .unset] [(.int (115 : Int32)), (.int (1 : Int32)), (.ref ca), (.ref ca)]))
      obtain ⟨cl76, Ar76, q76, S76, M76, H76, G76⟩ := V_73
      have hin76 : ¬ ((1 : Int32) < 0 ∨ cl76.slots.size ≤ ((1 : Int32)).toNatClampNeg) := inb_of S76 ⟨by decide, by decide⟩
      obtain ⟨T77, h77, X77, e77, W77, st77⟩ := Jvm.RoadKit.stC X73 hx hZ e73 Ar76 (j := (1 : Int32)) hin76 (g := (mkF m 70 #[.val (.int p1), .val (.int kk), .unset, .unset, .unset, .unset] [(.int (115 : Int32)), (.int (1 : Int32)), (.ref ca), (.ref ca)])) rfl rfl (hb hby at_70)
      have N77 := Fr.snoc X77 N73 ge_ca
      refine own_st (fun t k => st77 t k) ?_
      show own_G _ _ _ _ _ _ _ (T77.setTop (mkF m 71 #[.val (.int p1), .val (.int kk), .unset, .unset, .unset, .unset] [(.ref ca)]))
      rw [show nar .char (115 : Int32) = 115 from by decide] at W77
      have V_77 : Arv Z h77 ca k69 .char 2 [(.int 114), (.int 115)] (.int 0) := Arv.set Ar76 q76 S76 M76 H76 G76 (by decide) W77 1 rfl (Nat.le_of_ble_eq_true rfl)
      have O_78 := O_74.wr W77 ge_ca
      have Zz79 : n0 ≤ h77.size := Nat.le_trans Zz75 (Keep.of_wr W77).1
      refine own_st (fun t k => XS.astoreN X77.here hx rfl (hb hby at_71) rfl rfl (l' := #[.val (.int p1), .val (.int kk), .val (.ref ca), .unset, .unset, .unset]) rfl k) ?_
      show own_G _ _ _ _ _ _ _ (T77.setTop (mkF m 72 #[.val (.int p1), .val (.int kk), .val (.ref ca), .unset, .unset, .unset] []))
      obtain ⟨T80, X80, e80, st80⟩ := getS2 X77 hx hZ hown (host := "") (Or.inl (hw _ (List.mem_of_getElem? (i := 73) rfl))) Via.refl e77 (S_RS.ext O_78.2) (g := (mkF m 72 #[.val (.int p1), .val (.int kk), .val (.ref ca), .unset, .unset, .unset] [])) rfl (hb hby at_72)
      refine own_st (fun t k => st80 t k) ?_
      show own_G _ _ _ _ _ _ _ (T80.setTop (mkF m 75 #[.val (.int p1), .val (.int kk), .val (.ref ca), .unset, .unset, .unset] [(.ref c_RS)]))
      refine own_st (fun t k => XS.astoreN X80.here hx rfl (hb hby at_75) rfl rfl (l' := #[.val (.int p1), .val (.int kk), .val (.ref ca), .val (.ref c_RS), .unset, .unset]) rfl k) ?_
      show own_G _ _ _ _ _ _ _ (T80.setTop (mkF m 76 #[.val (.int p1), .val (.int kk), .val (.ref ca), .val (.ref c_RS), .unset, .unset] []))
      refine own_st (fun t k => XS.goto X80.here hx rfl (pc0 := 76) (pc' := 112) rfl (hb hby at_76) (by decide) (by decide) k) ?_
      show own_G _ _ _ _ _ _ _ (T80.setTop (mkF m 112 #[.val (.int p1), .val (.int kk), .val (.ref ca), .val (.ref c_RS), .unset, .unset] []))
      obtain ⟨T81, h81, X81, e81, E81, A81, D81, -, st81⟩ := newO X80 hx hZ hown (hw _ (List.mem_of_getElem? (i := 5) rfl)) (hw _ (List.mem_of_getElem? (i := 6) rfl)) (hw _ (List.mem_of_getElem? (i := 7) rfl)) e80 (g := (mkF m 112 #[.val (.int p1), .val (.int kk), .val (.ref ca), .val (.ref c_RS), .unset, .unset] [])) rfl (hb hby at_112) (by decide) (by decide)
      obtain ⟨sx, g81⟩ : ∃ z, z = h77.size := ⟨_, rfl⟩
      rw [← g81] at A81 D81 st81
      refine own_st (fun t k => st81 t k) ?_
      show own_G _ _ _ _ _ _ _ (T81.setTop (mkF m 115 #[.val (.int p1), .val (.int kk), .val (.ref ca), .val (.ref c_RS), .unset, .unset] [(.ref sx)]))
      have ge_sx : n0 ≤ sx := Nat.le_trans Zz79 (Nat.le_of_eq g81.symm)
      have ne_ca_sx : ca ≠ sx := Nat.ne_of_lt (Nat.lt_of_lt_of_le V_77.lt (Nat.le_of_eq g81.symm))
      have O_82 := O_78.ext E81
      have V_83 := V_77.ext E81
      have Zz84 : n0 ≤ h81.size := Nat.le_trans Zz79 E81.1
      have Fv : Fld Z h81 sx "java/lang/String" "value" "[B" .null := D81 (Or.inr (hw _ (List.mem_of_getElem? (i := 33) rfl))) (ty := .array .byte) (by decide)
      have Fc : Fld Z h81 sx "java/lang/String" "coder" "B" (.int 0) := D81 (Or.inr (hw _ (List.mem_of_getElem? (i := 31) rfl))) (ty := .byte) (by decide)
      refine own_st (fun t k => XS.dup X81.here hx rfl (hb hby at_115) rfl rfl k) ?_
      show own_G _ _ _ _ _ _ _ (T81.setTop (mkF m 116 #[.val (.int p1), .val (.int kk), .val (.ref ca), .val (.ref c_RS), .unset, .unset] [(.ref sx), (.ref sx)]))
      refine own_st (fun t k => XS.aloadN X81.here hx rfl (hb hby at_116) rfl rfl k) ?_
      show own_G _ _ _ _ _ _ _ (T81.setTop (mkF m 117 #[.val (.int p1), .val (.int kk), .val (.ref ca), .val (.ref c_RS), .unset, .unset] [(.ref ca), (.ref sx), (.ref sx)]))
      obtain ⟨_, _, ⟨T85, L85, k85, n85⟩, -, X85, ⟨Lc85, hQ85, l85, y85, z85⟩, st85⟩ := X81.specialBack hx (y := (⟨"java/lang/String", "<init>", "([C)V"⟩ : MethodName)) rfl hown (mvT hZ (hw _ (List.mem_of_getElem? (i := 8) rfl))) (mvT hZ (hw _ (List.mem_of_getElem? (i := 9) rfl))) (mvT hZ (hw _ (List.mem_of_getElem? (i := 10) rfl))) (by decide) (StrChars.Road.backV (W := 1) hZ (own_hws hw) (kI := 4) (hw _ (List.mem_of_getElem? (i := 6) rfl)) (cs := own_cRS) (bs := own_cRS.map (fun c => c.toInt8.toInt32)) (n := 2) ge_sx Zz84 A81 Fv Fc V_83 (Sg.ext O_82.2) hzc rfl rfl (by decide) (by decide) own_pRS rfl (by decide) (by decide)) (g := (mkF m 117 #[.val (.int p1), .val (.int kk), .val (.ref ca), .val (.ref c_RS), .unset, .unset] [(.ref ca), (.ref sx), (.ref sx)])) rfl (by rw [hml]; rfl) (Steps.refl _) (a := sx) (argsL := [(.ref ca)]) (rest := [(.ref sx)]) (lenOf own_pd3 rfl) rfl (by show 2 * 0 + _ ≤ _; exact Nat.le_of_eq rfl) (hb hby at_117) (fun _ _ => ⟨rfl, e81, (by decide : 2 + 1 ≤ _), (by decide : 6 + 2 ≤ _)⟩)
      dsimp only [Pt.U, Pt.locs, Pt.cells, Pt.slots] at X85 l85 y85 z85 st85 hQ85
      subst l85 y85 z85
      obtain ⟨rfl, N85q, K85, Es85, Co85, ts85, kb85, gt85, st185, nt85, Va85, Av85⟩ := hQ85
      have N85 := Fr.app N77 N85q
      refine own_st (fun t k => st85.trans k) ?_
      show own_G _ _ _ _ _ _ _ (T85.setTop (mkF m 120 #[.val (.int p1), .val (.int kk), .val (.ref ca), .val (.ref c_RS), .unset, .unset] [(.ref sx)]))
      have O_86 := O_82.keep K85 (allS ge_sx all0)
      have V_87 := V_83.keep K85 (ninS ne_ca_sx nin0)
      have Zz88 : n0 ≤ _ := Nat.le_trans Zz84 K85.1
      have Sx : own_S Z T85.heap sx own_cRS := ⟨Es85, Co85, ts85, kb85, Va85, Av85⟩
      refine own_st (fun t k => XS.astore X85.here hx rfl (hb hby at_120) rfl rfl (l' := #[.val (.int p1), .val (.int kk), .val (.ref ca), .val (.ref c_RS), .val (.ref sx), .unset]) rfl k) ?_
      show own_G _ _ _ _ _ _ _ (T85.setTop (mkF m 122 #[.val (.int p1), .val (.int kk), .val (.ref ca), .val (.ref c_RS), .val (.ref sx), .unset] []))
      refine own_st (fun t k => XS.aload X85.here hx rfl (hb hby at_122) rfl rfl k) ?_
      show own_G _ _ _ _ _ _ _ (T85.setTop (mkF m 124 #[.val (.int p1), .val (.int kk), .val (.ref ca), .val (.ref c_RS), .val (.ref sx), .unset] [(.ref sx)]))
      obtain ⟨_, _, ⟨T89, L89, k89, n89⟩, -, X89, ⟨Lc89, hQ89, l89, y89, z89⟩, st89⟩ := Jvm.LawKit.callS X85 hx (y := (⟨"com/example/tessera/tessera/device/Role", "named", "(Ljava/lang/String;)Lcom/example/tessera/tessera/device/Role;"⟩ : MethodName)) hown (mvT hZ (hw _ (List.mem_of_getElem? (i := 34) rfl))) (mvT hZ (hw _ (List.mem_of_getElem? (i := 35) rfl))) (mvT hZ (hw _ (List.mem_of_getElem? (i := 3) rfl))) (mvT hZ (hw _ (List.mem_of_getElem? (i := 36) rfl))) (by decide) (backOf (W := 0) (own_rm3 l Z a0 hw [] sx va kv c_CLIENT c_RS c_ADMIN n_CLIENT n_RS n_ADMIN zc T85.heap n0 Zz88 O_86 Sv Vv Ev Sg hzc Fn_CLIENT N_CLIENT Fn_RS N_RS Fn_ADMIN N_ADMIN Sx) hZ (hw _ (List.mem_of_getElem? (i := 36) rfl)) (hw _ (List.mem_of_getElem? (i := 3) rfl)) (by decide) (by decide)) (g := (mkF m 124 #[.val (.int p1), .val (.int kk), .val (.ref ca), .val (.ref c_RS), .val (.ref sx), .unset] [(.ref sx)])) rfl (by rw [hml]; rfl) (argsL := [(.ref sx)]) (rest := []) (lenOf own_pd1 rfl) rfl (by show 2 * 0 + _ ≤ _; exact Nat.le_of_eq rfl) (hb hby at_124) (fun _ _ => ⟨rfl, rfl, (by decide : 3 + 1 ≤ _), (by decide : 8 + 3 ≤ _)⟩)
      dsimp only [Pt.U, Pt.locs, Pt.cells, Pt.slots] at X89 l89 y89 z89 st89 hQ89
      subst l89 y89 z89
      obtain ⟨rfl, N89q, K89⟩ := hQ89
      have N89 := Fr.app N85 N89q
      refine own_st (fun t k => st89 t k) ?_
      show own_G _ _ _ _ _ _ _ (T89.setTop (mkF m 127 #[.val (.int p1), .val (.int kk), .val (.ref ca), .val (.ref c_RS), .val (.ref sx), .unset] [(.ref c_RS)]))
      have O_90 := O_86.keep K89 all0
      have V_91 := V_87.keep K89 nin0
      have Zz92 : n0 ≤ _ := Nat.le_trans Zz88 K89.1
      have Sy := Sx.keep0 K89
      refine own_st (fun t k => XS.astore X89.here hx rfl (hb hby at_127) rfl rfl (l' := #[.val (.int p1), .val (.int kk), .val (.ref ca), .val (.ref c_RS), .val (.ref sx), .val (.ref c_RS)]) rfl k) ?_
      show own_G _ _ _ _ _ _ _ (T89.setTop (mkF m 129 #[.val (.int p1), .val (.int kk), .val (.ref ca), .val (.ref c_RS), .val (.ref sx), .val (.ref c_RS)] []))
      refine own_st (fun t k => XS.aload X89.here hx rfl (hb hby at_129) rfl rfl k) ?_
      show own_G _ _ _ _ _ _ _ (T89.setTop (mkF m 131 #[.val (.int p1), .val (.int kk), .val (.ref ca), .val (.ref c_RS), .val (.ref sx), .val (.ref c_RS)] [(.ref c_RS)]))
      refine own_st (fun t k => XS.aloadN X89.here hx rfl (hb hby at_131) rfl rfl k) ?_
      show own_G _ _ _ _ _ _ _ (T89.setTop (mkF m 132 #[.val (.int p1), .val (.int kk), .val (.ref ca), .val (.ref c_RS), .val (.ref sx), .val (.ref c_RS)] [(.ref c_RS), (.ref c_RS)]))
      refine own_st (fun t k => Jvm.RoadKit.acmp (g := (mkF m 132 #[.val (.int p1), .val (.int kk), .val (.ref ca), .val (.ref c_RS), .val (.ref sx), .val (.ref c_RS)] [(.ref c_RS), (.ref c_RS)])) X89 hx rfl rfl rfl (pc0 := 132) (pc' := 135) (same := true) rfl (hb hby at_132) rfl (decide_eq_true (congrArg Value.ref rfl)) (by decide) (by decide) k) ?_
      show own_G _ _ _ _ _ _ _ (T89.setTop (mkF m 135 #[.val (.int p1), .val (.int kk), .val (.ref ca), .val (.ref c_RS), .val (.ref sx), .val (.ref c_RS)] []))
      refine own_st (fun t k => XS.aloadN X89.here hx rfl (hb hby at_135) rfl rfl k) ?_
      show own_G _ _ _ _ _ _ _ (T89.setTop (mkF m 136 #[.val (.int p1), .val (.int kk), .val (.ref ca), .val (.ref c_RS), .val (.ref sx), .val (.ref c_RS)] [(.ref c_RS)]))
      obtain ⟨cq93, kq93, q93a, q93b, q93c⟩ := isOf hZ rfl (A_RS.ext O_90.2)
      obtain ⟨_, _, ⟨T93, L93, k93, n93⟩, -, X93, ⟨Lc93, hQ93, l93, y93, z93⟩, st93⟩ := X89.virtualBack hx (y := (⟨"com/example/tessera/tessera/device/Role", "getName", "()Ljava/lang/String;"⟩ : MethodName)) (z := (⟨"com/example/tessera/tessera/device/Role", "getName", "()Ljava/lang/String;"⟩ : MethodName)) hown (mvT hZ (hw _ (List.mem_of_getElem? (i := 66) rfl))) (mvT hZ (hw _ (List.mem_of_getElem? (i := 67) rfl))) (notFace_of_selects (args := #[]) (mvT hZ (hw _ (List.mem_of_getElem? (i := 69) rfl)))) (mvT hZ (hw _ (List.mem_of_getElem? (i := 69) rfl))) (mvT hZ (hw _ (List.mem_of_getElem? (i := 68) rfl))) (by decide) (backOf (W := 0) (own_rm6 l Z a0 hw [] c_RS n_RS T89.heap n0 Zz92 (Fn_RS.ext O_90.2)) hZ (hw _ (List.mem_of_getElem? (i := 70) rfl)) (hw _ (List.mem_of_getElem? (i := 3) rfl)) (by decide) (by decide)) q93a q93c (g := (mkF m 136 #[.val (.int p1), .val (.int kk), .val (.ref ca), .val (.ref c_RS), .val (.ref sx), .val (.ref c_RS)] [(.ref c_RS)])) rfl (by rw [hml]; rfl) (Steps.refl _) (argsL := []) (rest := []) (lenOf own_pd2 rfl) rfl (by show 2 * 0 + _ ≤ _; exact Nat.le_of_eq rfl) (hb hby at_136) (fun _ _ => ⟨rfl, rfl, (by decide : 4 + 0 ≤ _), (by decide : 11 + 0 ≤ _)⟩)
      dsimp only [Pt.U, Pt.locs, Pt.cells, Pt.slots] at X93 l93 y93 z93 st93 hQ93
      subst l93 y93 z93
      obtain ⟨rfl, N93q, e93⟩ := hQ93
      have N93 := Fr.app N89 N93q
      refine own_st (fun t k => st93.trans k) ?_
      show own_G _ _ _ _ _ _ _ (T93.setTop (mkF m 139 #[.val (.int p1), .val (.int kk), .val (.ref ca), .val (.ref c_RS), .val (.ref sx), .val (.ref c_RS)] [(.ref n_RS)]))
      refine own_st (fun t k => XS.aload X93.here hx rfl (hb hby at_139) rfl rfl k) ?_
      show own_G _ _ _ _ _ _ _ (T93.setTop (mkF m 141 #[.val (.int p1), .val (.int kk), .val (.ref ca), .val (.ref c_RS), .val (.ref sx), .val (.ref c_RS)] [(.ref sx), (.ref n_RS)]))
      obtain ⟨Ea94, Ca94, ta94, ka94, Va94, Aa94⟩ := (id (N_RS.ext O_90.2))
      obtain ⟨Eb94, Cb94, tb94, kb94, Vb94, Ab94⟩ := (id Sy)
      obtain ⟨cq95, kq95, q95a, q95b, q95c⟩ := isOf hZ e93 Ea94
      obtain ⟨_, _, ⟨T95, L95, k95, n95⟩, -, X95, ⟨Lc95, hQ95, l95, y95, z95⟩, st95⟩ := X93.virtualBack hx (y := (⟨"java/lang/String", "equals", "(Ljava/lang/Object;)Z"⟩ : MethodName)) (z := (⟨"java/lang/String", "equals", "(Ljava/lang/Object;)Z"⟩ : MethodName)) hown (mvT hZ (hw _ (List.mem_of_getElem? (i := 71) rfl))) (mvT hZ (hw _ (List.mem_of_getElem? (i := 57) rfl))) (notFace_of_selects (args := #[]) (mvT hZ (hw _ (List.mem_of_getElem? (i := 59) rfl)))) (mvT hZ (hw _ (List.mem_of_getElem? (i := 59) rfl))) (mvT hZ (hw _ (List.mem_of_getElem? (i := 58) rfl))) (by decide) (StrChars.Road.eqW (W := 0) hZ (own_heq hw) (kI := 4) (hw _ (List.mem_of_getElem? (i := 6) rfl)) Ea94 Va94 Ca94 Aa94 (own_cod _ own_pRS) (own_up _ own_pRS) (by decide) Eb94 Vb94 Cb94 Ab94 (own_cod _ own_pRS) (own_up _ own_pRS) (by decide) (Sg.ext O_90.2) hzc (by decide) (by decide)) q95a q95c (g := (mkF m 141 #[.val (.int p1), .val (.int kk), .val (.ref ca), .val (.ref c_RS), .val (.ref sx), .val (.ref c_RS)] [(.ref sx), (.ref n_RS)])) rfl (by rw [hml]; rfl) (Steps.refl _) (argsL := [(.ref sx)]) (rest := []) (lenOf own_pd4 rfl) rfl (by show 2 * 0 + _ ≤ _; exact Nat.le_of_eq rfl) (hb hby at_141) (fun _ _ => ⟨rfl, e93, (by decide : 4 + 0 ≤ _), (by decide : 11 + 0 ≤ _)⟩)
      dsimp only [Pt.U, Pt.locs, Pt.cells, Pt.slots] at X95 l95 y95 z95 st95 hQ95
      subst l95 y95 z95
      obtain ⟨hc95, rfl, e95⟩ := hQ95
      have hv95 : _ = some (Value.int 1) := hc95.elim (fun q => q.1) (fun q => absurd rfl q.2)
      subst hv95
      have N95 := Fr.app N93 (Fr.nil n0)
      refine own_st (fun t k => st95.trans k) ?_
      show own_G _ _ _ _ _ _ _ (T95.setTop (mkF m 144 #[.val (.int p1), .val (.int kk), .val (.ref ca), .val (.ref c_RS), .val (.ref sx), .val (.ref c_RS)] [(.int (1 : Int32))]))
      refine own_st (fun t k => XS.ifNo X95.here hx rfl (hb hby at_144) rfl ((if0 _ _).trans (feq (by decide)).1) k) ?_
      show own_G _ _ _ _ _ _ _ (T95.setTop (mkF m 147 #[.val (.int p1), .val (.int kk), .val (.ref ca), .val (.ref c_RS), .val (.ref sx), .val (.ref c_RS)] []))
      refine own_st (fun t k => XS.iconst X95.here hx rfl (hb hby at_147) k) ?_
      show own_G _ _ _ _ _ _ _ (T95.setTop (mkF m 148 #[.val (.int p1), .val (.int kk), .val (.ref ca), .val (.ref c_RS), .val (.ref sx), .val (.ref c_RS)] [(.int (1 : Int32))]))
      refine own_st (fun t k => XS.goto X95.here hx rfl (pc0 := 148) (pc' := 152) rfl (hb hby at_148) (by decide) (by decide) k) ?_
      show own_G _ _ _ _ _ _ _ (T95.setTop (mkF m 152 #[.val (.int p1), .val (.int kk), .val (.ref ca), .val (.ref c_RS), .val (.ref sx), .val (.ref c_RS)] [(.int (1 : Int32))]))
      exact own_retN (t := .boolean) (by simp) X95 hx Bd.returns (BodyLoose.notSynchronized Bd) (hb hby at_152) (by decide) (by decide) ⟨rfl, N95⟩
    · refine own_st (fun t k => XS.icmpYes X0.here hx rfl (pc0 := 55) (pc' := 79) rfl (hb hby at_55) rfl (feq h1k).2 (by decide) (by decide) k) ?_
      show own_G _ _ _ _ _ _ _ (s₁.setTop (mkF m 79 #[.val (.int p1), .val (.int kk), .unset, .unset, .unset, .unset] []))
      refine own_st (fun t k => XS.iconst X0.here hx rfl (hb hby at_79) k) ?_
      show own_G _ _ _ _ _ _ _ (s₁.setTop (mkF m 80 #[.val (.int p1), .val (.int kk), .unset, .unset, .unset, .unset] [(.int (5 : Int32))]))
      obtain ⟨T96, h96, k96, X96, e96, E96, A96, st96⟩ := newP X0 hx hZ (hw _ (List.mem_of_getElem? (i := 1) rfl)) e0 (g := (mkF m 80 #[.val (.int p1), .val (.int kk), .unset, .unset, .unset, .unset] [(.int (5 : Int32))])) rfl (hb hby at_80) rfl (by decide) (cap := 5) (by decide) (by decide) (by decide) (by decide)
      obtain ⟨ca, g96⟩ : ∃ z, z = h0.size := ⟨_, rfl⟩
      rw [← g96] at A96 st96
      refine own_st (fun t k => st96 t k) ?_
      show own_G _ _ _ _ _ _ _ (T96.setTop (mkF m 82 #[.val (.int p1), .val (.int kk), .unset, .unset, .unset, .unset] [(.ref ca)]))
      have ge_ca : n0 ≤ ca := Nat.le_trans Z0 (Nat.le_of_eq g96.symm)
      have O_97 := O0.ext E96
      have Zz98 : n0 ≤ h96.size := Nat.le_trans Z0 E96.1
      have V_0 : Arv Z h96 ca k96 .char 5 [(.int 0), (.int 0), (.int 0), (.int 0), (.int 0)] (.int 0) := (Arv.new A96 (by decide)).pad (pad_rep [] (.int 0) 5)
      refine own_st (fun t k => XS.dup X96.here hx rfl (hb hby at_82) rfl rfl k) ?_
      show own_G _ _ _ _ _ _ _ (T96.setTop (mkF m 83 #[.val (.int p1), .val (.int kk), .unset, .unset, .unset, .unset] [(.ref ca), (.ref ca)]))
      refine own_st (fun t k => XS.iconst X96.here hx rfl (hb hby at_83) k) ?_
      show own_G _ _ _ _ _ _ _ (T96.setTop (mkF m 84 #[.val (.int p1), .val (.int kk), .unset, .unset, .unset, .unset] [(.int (0 : Int32)), (.ref ca), (.ref ca)]))
      refine own_st (fun t k => XS.bipush X96.here hx rfl (hb hby at_84) k) ?_
      show own_G _ _ _ _ _ _ _ (T96.setTop (mkF m 86 #[.val (.int p1), .val (.int kk), .unset, .unset, .unset, .unset] [(.int (97 : Int32)), (.int (0 : Int32)), (.ref ca), (.ref ca)]))
      obtain ⟨cl99, Ar99, q99, S99, M99, H99, G99⟩ := V_0
      have hin99 : ¬ ((0 : Int32) < 0 ∨ cl99.slots.size ≤ ((0 : Int32)).toNatClampNeg) := inb_of S99 ⟨by decide, by decide⟩
      obtain ⟨T100, h100, X100, e100, W100, st100⟩ := Jvm.RoadKit.stC X96 hx hZ e96 Ar99 (j := (0 : Int32)) hin99 (g := (mkF m 86 #[.val (.int p1), .val (.int kk), .unset, .unset, .unset, .unset] [(.int (97 : Int32)), (.int (0 : Int32)), (.ref ca), (.ref ca)])) rfl rfl (hb hby at_86)
      have N100 := Fr.snoc X100 N0 ge_ca
      refine own_st (fun t k => st100 t k) ?_
      show own_G _ _ _ _ _ _ _ (T100.setTop (mkF m 87 #[.val (.int p1), .val (.int kk), .unset, .unset, .unset, .unset] [(.ref ca)]))
      rw [show nar .char (97 : Int32) = 97 from by decide] at W100
      have V_100 : Arv Z h100 ca k96 .char 5 [(.int 97), (.int 0), (.int 0), (.int 0), (.int 0)] (.int 0) := Arv.set Ar99 q99 S99 M99 H99 G99 (by decide) W100 0 rfl (Nat.le_of_ble_eq_true rfl)
      have O_101 := O_97.wr W100 ge_ca
      have Zz102 : n0 ≤ h100.size := Nat.le_trans Zz98 (Keep.of_wr W100).1
      refine own_st (fun t k => XS.dup X100.here hx rfl (hb hby at_87) rfl rfl k) ?_
      show own_G _ _ _ _ _ _ _ (T100.setTop (mkF m 88 #[.val (.int p1), .val (.int kk), .unset, .unset, .unset, .unset] [(.ref ca), (.ref ca)]))
      refine own_st (fun t k => XS.iconst X100.here hx rfl (hb hby at_88) k) ?_
      show own_G _ _ _ _ _ _ _ (T100.setTop (mkF m 89 #[.val (.int p1), .val (.int kk), .unset, .unset, .unset, .unset] [(.int (1 : Int32)), (.ref ca), (.ref ca)]))
      refine own_st (fun t k => XS.bipush X100.here hx rfl (hb hby at_89) k) ?_
      show own_G _ _ _ _ _ _ _ (T100.setTop (mkF m 91 #[.val (.int p1), .val (.int kk), .unset, .unset, .unset, .unset] [(.int (100 : Int32)), (.int (1 : Int32)), (.ref ca), (.ref ca)]))
      obtain ⟨cl103, Ar103, q103, S103, M103, H103, G103⟩ := V_100
      have hin103 : ¬ ((1 : Int32) < 0 ∨ cl103.slots.size ≤ ((1 : Int32)).toNatClampNeg) := inb_of S103 ⟨by decide, by decide⟩
      obtain ⟨T104, h104, X104, e104, W104, st104⟩ := Jvm.RoadKit.stC X100 hx hZ e100 Ar103 (j := (1 : Int32)) hin103 (g := (mkF m 91 #[.val (.int p1), .val (.int kk), .unset, .unset, .unset, .unset] [(.int (100 : Int32)), (.int (1 : Int32)), (.ref ca), (.ref ca)])) rfl rfl (hb hby at_91)
      have N104 := Fr.snoc X104 N100 ge_ca
      refine own_st (fun t k => st104 t k) ?_
      show own_G _ _ _ _ _ _ _ (T104.setTop (mkF m 92 #[.val (.int p1), .val (.int kk), .unset, .unset, .unset, .unset] [(.ref ca)]))
      rw [show nar .char (100 : Int32) = 100 from by decide] at W104
      have V_104 : Arv Z h104 ca k96 .char 5 [(.int 97), (.int 100), (.int 0), (.int 0), (.int 0)] (.int 0) := Arv.set Ar103 q103 S103 M103 H103 G103 (by decide) W104 1 rfl (Nat.le_of_ble_eq_true rfl)
      have O_105 := O_101.wr W104 ge_ca
      have Zz106 : n0 ≤ h104.size := Nat.le_trans Zz102 (Keep.of_wr W104).1
      refine own_st (fun t k => XS.dup X104.here hx rfl (hb hby at_92) rfl rfl k) ?_
      show own_G _ _ _ _ _ _ _ (T104.setTop (mkF m 93 #[.val (.int p1), .val (.int kk), .unset, .unset, .unset, .unset] [(.ref ca), (.ref ca)]))
      refine own_st (fun t k => XS.iconst X104.here hx rfl (hb hby at_93) k) ?_
      show own_G _ _ _ _ _ _ _ (T104.setTop (mkF m 94 #[.val (.int p1), .val (.int kk), .unset, .unset, .unset, .unset] [(.int (2 : Int32)), (.ref ca), (.ref ca)]))
      refine own_st (fun t k => XS.bipush X104.here hx rfl (hb hby at_94) k) ?_
      show own_G _ _ _ _ _ _ _ (T104.setTop (mkF m 96 #[.val (.int p1), .val (.int kk), .unset, .unset, .unset, .unset] [(.int (109 : Int32)), (.int (2 : Int32)), (.ref ca), (.ref ca)]))
      obtain ⟨cl107, Ar107, q107, S107, M107, H107, G107⟩ := V_104
      have hin107 : ¬ ((2 : Int32) < 0 ∨ cl107.slots.size ≤ ((2 : Int32)).toNatClampNeg) := inb_of S107 ⟨by decide, by decide⟩
      obtain ⟨T108, h108, X108, e108, W108, st108⟩ := Jvm.RoadKit.stC X104 hx hZ e104 Ar107 (j := (2 : Int32)) hin107 (g := (mkF m 96 #[.val (.int p1), .val (.int kk), .unset, .unset, .unset, .unset] [(.int (109 : Int32)), (.int (2 : Int32)), (.ref ca), (.ref ca)])) rfl rfl (hb hby at_96)
      have N108 := Fr.snoc X108 N104 ge_ca
      refine own_st (fun t k => st108 t k) ?_
      show own_G _ _ _ _ _ _ _ (T108.setTop (mkF m 97 #[.val (.int p1), .val (.int kk), .unset, .unset, .unset, .unset] [(.ref ca)]))
      rw [show nar .char (109 : Int32) = 109 from by decide] at W108
      have V_108 : Arv Z h108 ca k96 .char 5 [(.int 97), (.int 100), (.int 109), (.int 0), (.int 0)] (.int 0) := Arv.set Ar107 q107 S107 M107 H107 G107 (by decide) W108 2 rfl (Nat.le_of_ble_eq_true rfl)
      have O_109 := O_105.wr W108 ge_ca
      have Zz110 : n0 ≤ h108.size := Nat.le_trans Zz106 (Keep.of_wr W108).1
      refine own_st (fun t k => XS.dup X108.here hx rfl (hb hby at_97) rfl rfl k) ?_
      show own_G _ _ _ _ _ _ _ (T108.setTop (mkF m 98 #[.val (.int p1), .val (.int kk), .unset, .unset, .unset, .unset] [(.ref ca), (.ref ca)]))
      refine own_st (fun t k => XS.iconst X108.here hx rfl (hb hby at_98) k) ?_
      show own_G _ _ _ _ _ _ _ (T108.setTop (mkF m 99 #[.val (.int p1), .val (.int kk), .unset, .unset, .unset, .unset] [(.int (3 : Int32)), (.ref ca), (.ref ca)]))
      refine own_st (fun t k => XS.bipush X108.here hx rfl (hb hby at_99) k) ?_
      show own_G _ _ _ _ _ _ _ (T108.setTop (mkF m 101 #[.val (.int p1), .val (.int kk), .unset, .unset, .unset, .unset] [(.int (105 : Int32)), (.int (3 : Int32)), (.ref ca), (.ref ca)]))
      obtain ⟨cl111, Ar111, q111, S111, M111, H111, G111⟩ := V_108
      have hin111 : ¬ ((3 : Int32) < 0 ∨ cl111.slots.size ≤ ((3 : Int32)).toNatClampNeg) := inb_of S111 ⟨by decide, by decide⟩
      obtain ⟨T112, h112, X112, e112, W112, st112⟩ := Jvm.RoadKit.stC X108 hx hZ e108 Ar111 (j := (3 : Int32)) hin111 (g := (mkF m 101 #[.val (.int p1), .val (.int kk), .unset, .unset, .unset, .unset] [(.int (105 : Int32)), (.int (3 : Int32)), (.ref ca), (.ref ca)])) rfl rfl (hb hby at_101)
      have N112 := Fr.snoc X112 N108 ge_ca
      refine own_st (fun t k => st112 t k) ?_
      show own_G _ _ _ _ _ _ _ (T112.setTop (mkF m 102 #[.val (.int p1), .val (.int kk), .unset, .unset, .unset, .unset] [(.ref ca)]))
      rw [show nar .char (105 : Int32) = 105 from by decide] at W112
      have V_112 : Arv Z h112 ca k96 .char 5 [(.int 97), (.int 100), (.int 109), (.int 105), (.int 0)] (.int 0) := Arv.set Ar111 q111 S111 M111 H111 G111 (by decide) W112 3 rfl (Nat.le_of_ble_eq_true rfl)
      have O_113 := O_109.wr W112 ge_ca
      have Zz114 : n0 ≤ h112.size := Nat.le_trans Zz110 (Keep.of_wr W112).1
      refine own_st (fun t k => XS.dup X112.here hx rfl (hb hby at_102) rfl rfl k) ?_
      show own_G _ _ _ _ _ _ _ (T112.setTop (mkF m 103 #[.val (.int p1), .val (.int kk), .unset, .unset, .unset, .unset] [(.ref ca), (.ref ca)]))
      refine own_st (fun t k => XS.iconst X112.here hx rfl (hb hby at_103) k) ?_
      show own_G _ _ _ _ _ _ _ (T112.setTop (mkF m 104 #[.val (.int p1), .val (.int kk), .unset, .unset, .unset, .unset] [(.int (4 : Int32)), (.ref ca), (.ref ca)]))
      refine own_st (fun t k => XS.bipush X112.here hx rfl (hb hby at_104) k) ?_
      show own_G _ _ _ _ _ _ _ (T112.setTop (mkF m 106 #[.val (.int p1), .val (.int kk), .unset, .unset, .unset, .unset] [(.int (110 : Int32)), (.int (4 : Int32)), (.ref ca), (.ref ca)]))
      obtain ⟨cl115, Ar115, q115, S115, M115, H115, G115⟩ := V_112
      have hin115 : ¬ ((4 : Int32) < 0 ∨ cl115.slots.size ≤ ((4 : Int32)).toNatClampNeg) := inb_of S115 ⟨by decide, by decide⟩
      obtain ⟨T116, h116, X116, e116, W116, st116⟩ := Jvm.RoadKit.stC X112 hx hZ e112 Ar115 (j := (4 : Int32)) hin115 (g := (mkF m 106 #[.val (.int p1), .val (.int kk), .unset, .unset, .unset, .unset] [(.int (110 : Int32)), (.int (4 : Int32)), (.ref ca), (.ref ca)])) rfl rfl (hb hby at_106)
      have N116 := Fr.snoc X116 N112 ge_ca
      refine own_st (fun t k => st116 t k) ?_
      show own_G _ _ _ _ _ _ _ (T116.setTop (mkF m 107 #[.val (.int p1), .val (.int kk), .unset, .unset, .unset, .unset] [(.ref ca)]))
      rw [show nar .char (110 : Int32) = 110 from by decide] at W116
      have V_116 : Arv Z h116 ca k96 .char 5 [(.int 97), (.int 100), (.int 109), (.int 105), (.int 110)] (.int 0) := Arv.set Ar115 q115 S115 M115 H115 G115 (by decide) W116 4 rfl (Nat.le_of_ble_eq_true rfl)
      have O_117 := O_113.wr W116 ge_ca
      have Zz118 : n0 ≤ h116.size := Nat.le_trans Zz114 (Keep.of_wr W116).1
      refine own_st (fun t k => XS.astoreN X116.here hx rfl (hb hby at_107) rfl rfl (l' := #[.val (.int p1), .val (.int kk), .val (.ref ca), .unset, .unset, .unset]) rfl k) ?_
      show own_G _ _ _ _ _ _ _ (T116.setTop (mkF m 108 #[.val (.int p1), .val (.int kk), .val (.ref ca), .unset, .unset, .unset] []))
      obtain ⟨T119, X119, e119, st119⟩ := getS2 X116 hx hZ hown (host := "") (Or.inl (hw _ (List.mem_of_getElem? (i := 72) rfl))) Via.refl e116 (S_ADMIN.ext O_117.2) (g := (mkF m 108 #[.val (.int p1), .val (.int kk), .val (.ref ca), .unset, .unset, .unset] [])) rfl (hb hby at_108)
      refine own_st (fun t k => st119 t k) ?_
      show own_G _ _ _ _ _ _ _ (T119.setTop (mkF m 111 #[.val (.int p1), .val (.int kk), .val (.ref ca), .unset, .unset, .unset] [(.ref c_ADMIN)]))
      refine own_st (fun t k => XS.astoreN X119.here hx rfl (hb hby at_111) rfl rfl (l' := #[.val (.int p1), .val (.int kk), .val (.ref ca), .val (.ref c_ADMIN), .unset, .unset]) rfl k) ?_
      show own_G _ _ _ _ _ _ _ (T119.setTop (mkF m 112 #[.val (.int p1), .val (.int kk), .val (.ref ca), .val (.ref c_ADMIN), .unset, .unset] []))
      obtain ⟨T120, h120, X120, e120, E120, A120, D120, -, st120⟩ := newO X119 hx hZ hown (hw _ (List.mem_of_getElem? (i := 5) rfl)) (hw _ (List.mem_of_getElem? (i := 6) rfl)) (hw _ (List.mem_of_getElem? (i := 7) rfl)) e119 (g := (mkF m 112 #[.val (.int p1), .val (.int kk), .val (.ref ca), .val (.ref c_ADMIN), .unset, .unset] [])) rfl (hb hby at_112) (by decide) (by decide)
      obtain ⟨sx, g120⟩ : ∃ z, z = h116.size := ⟨_, rfl⟩
      rw [← g120] at A120 D120 st120
      refine own_st (fun t k => st120 t k) ?_
      show own_G _ _ _ _ _ _ _ (T120.setTop (mkF m 115 #[.val (.int p1), .val (.int kk), .val (.ref ca), .val (.ref c_ADMIN), .unset, .unset] [(.ref sx)]))
      have ge_sx : n0 ≤ sx := Nat.le_trans Zz118 (Nat.le_of_eq g120.symm)
      have ne_ca_sx : ca ≠ sx := Nat.ne_of_lt (Nat.lt_of_lt_of_le V_116.lt (Nat.le_of_eq g120.symm))
      have O_121 := O_117.ext E120
      have V_122 := V_116.ext E120
      have Zz123 : n0 ≤ h120.size := Nat.le_trans Zz118 E120.1
      have Fv : Fld Z h120 sx "java/lang/String" "value" "[B" .null := D120 (Or.inr (hw _ (List.mem_of_getElem? (i := 33) rfl))) (ty := .array .byte) (by decide)
      have Fc : Fld Z h120 sx "java/lang/String" "coder" "B" (.int 0) := D120 (Or.inr (hw _ (List.mem_of_getElem? (i := 31) rfl))) (ty := .byte) (by decide)
      refine own_st (fun t k => XS.dup X120.here hx rfl (hb hby at_115) rfl rfl k) ?_
      show own_G _ _ _ _ _ _ _ (T120.setTop (mkF m 116 #[.val (.int p1), .val (.int kk), .val (.ref ca), .val (.ref c_ADMIN), .unset, .unset] [(.ref sx), (.ref sx)]))
      refine own_st (fun t k => XS.aloadN X120.here hx rfl (hb hby at_116) rfl rfl k) ?_
      show own_G _ _ _ _ _ _ _ (T120.setTop (mkF m 117 #[.val (.int p1), .val (.int kk), .val (.ref ca), .val (.ref c_ADMIN), .unset, .unset] [(.ref ca), (.ref sx), (.ref sx)]))
      obtain ⟨_, _, ⟨T124, L124, k124, n124⟩, -, X124, ⟨Lc124, hQ124, l124, y124, z124⟩, st124⟩ := X120.specialBack hx (y := (⟨"java/lang/String", "<init>", "([C)V"⟩ : MethodName)) rfl hown (mvT hZ (hw _ (List.mem_of_getElem? (i := 8) rfl))) (mvT hZ (hw _ (List.mem_of_getElem? (i := 9) rfl))) (mvT hZ (hw _ (List.mem_of_getElem? (i := 10) rfl))) (by decide) (StrChars.Road.backV (W := 1) hZ (own_hws hw) (kI := 4) (hw _ (List.mem_of_getElem? (i := 6) rfl)) (cs := own_cADMIN) (bs := own_cADMIN.map (fun c => c.toInt8.toInt32)) (n := 5) ge_sx Zz123 A120 Fv Fc V_122 (Sg.ext O_121.2) hzc rfl rfl (by decide) (by decide) own_pADMIN rfl (by decide) (by decide)) (g := (mkF m 117 #[.val (.int p1), .val (.int kk), .val (.ref ca), .val (.ref c_ADMIN), .unset, .unset] [(.ref ca), (.ref sx), (.ref sx)])) rfl (by rw [hml]; rfl) (Steps.refl _) (a := sx) (argsL := [(.ref ca)]) (rest := [(.ref sx)]) (lenOf own_pd3 rfl) rfl (by show 2 * 0 + _ ≤ _; exact Nat.le_of_eq rfl) (hb hby at_117) (fun _ _ => ⟨rfl, e120, (by decide : 2 + 1 ≤ _), (by decide : 9 + 5 ≤ _)⟩)
      dsimp only [Pt.U, Pt.locs, Pt.cells, Pt.slots] at X124 l124 y124 z124 st124 hQ124
      subst l124 y124 z124
      obtain ⟨rfl, N124q, K124, Es124, Co124, ts124, kb124, gt124, st1124, nt124, Va124, Av124⟩ := hQ124
      have N124 := Fr.app N116 N124q
      refine own_st (fun t k => st124.trans k) ?_
      show own_G _ _ _ _ _ _ _ (T124.setTop (mkF m 120 #[.val (.int p1), .val (.int kk), .val (.ref ca), .val (.ref c_ADMIN), .unset, .unset] [(.ref sx)]))
      have O_125 := O_121.keep K124 (allS ge_sx all0)
      have V_126 := V_122.keep K124 (ninS ne_ca_sx nin0)
      have Zz127 : n0 ≤ _ := Nat.le_trans Zz123 K124.1
      have Sx : own_S Z T124.heap sx own_cADMIN := ⟨Es124, Co124, ts124, kb124, Va124, Av124⟩
      refine own_st (fun t k => XS.astore X124.here hx rfl (hb hby at_120) rfl rfl (l' := #[.val (.int p1), .val (.int kk), .val (.ref ca), .val (.ref c_ADMIN), .val (.ref sx), .unset]) rfl k) ?_
      show own_G _ _ _ _ _ _ _ (T124.setTop (mkF m 122 #[.val (.int p1), .val (.int kk), .val (.ref ca), .val (.ref c_ADMIN), .val (.ref sx), .unset] []))
      refine own_st (fun t k => XS.aload X124.here hx rfl (hb hby at_122) rfl rfl k) ?_
      show own_G _ _ _ _ _ _ _ (T124.setTop (mkF m 124 #[.val (.int p1), .val (.int kk), .val (.ref ca), .val (.ref c_ADMIN), .val (.ref sx), .unset] [(.ref sx)]))
      obtain ⟨_, _, ⟨T128, L128, k128, n128⟩, -, X128, ⟨Lc128, hQ128, l128, y128, z128⟩, st128⟩ := Jvm.LawKit.callS X124 hx (y := (⟨"com/example/tessera/tessera/device/Role", "named", "(Ljava/lang/String;)Lcom/example/tessera/tessera/device/Role;"⟩ : MethodName)) hown (mvT hZ (hw _ (List.mem_of_getElem? (i := 34) rfl))) (mvT hZ (hw _ (List.mem_of_getElem? (i := 35) rfl))) (mvT hZ (hw _ (List.mem_of_getElem? (i := 3) rfl))) (mvT hZ (hw _ (List.mem_of_getElem? (i := 36) rfl))) (by decide) (backOf (W := 0) (own_rm4 l Z a0 hw [] sx va kv c_CLIENT c_RS c_ADMIN n_CLIENT n_RS n_ADMIN zc T124.heap n0 Zz127 O_125 Sv Vv Ev Sg hzc Fn_CLIENT N_CLIENT Fn_RS N_RS Fn_ADMIN N_ADMIN Sx) hZ (hw _ (List.mem_of_getElem? (i := 36) rfl)) (hw _ (List.mem_of_getElem? (i := 3) rfl)) (by decide) (by decide)) (g := (mkF m 124 #[.val (.int p1), .val (.int kk), .val (.ref ca), .val (.ref c_ADMIN), .val (.ref sx), .unset] [(.ref sx)])) rfl (by rw [hml]; rfl) (argsL := [(.ref sx)]) (rest := []) (lenOf own_pd1 rfl) rfl (by show 2 * 0 + _ ≤ _; exact Nat.le_of_eq rfl) (hb hby at_124) (fun _ _ => ⟨rfl, rfl, (by decide : 3 + 1 ≤ _), (by decide : 14 + 3 ≤ _)⟩)
      dsimp only [Pt.U, Pt.locs, Pt.cells, Pt.slots] at X128 l128 y128 z128 st128 hQ128
      subst l128 y128 z128
      obtain ⟨rfl, N128q, K128⟩ := hQ128
      have N128 := Fr.app N124 N128q
      refine own_st (fun t k => st128 t k) ?_
      show own_G _ _ _ _ _ _ _ (T128.setTop (mkF m 127 #[.val (.int p1), .val (.int kk), .val (.ref ca), .val (.ref c_ADMIN), .val (.ref sx), .unset] [(.ref c_ADMIN)]))
      have O_129 := O_125.keep K128 all0
      have V_130 := V_126.keep K128 nin0
      have Zz131 : n0 ≤ _ := Nat.le_trans Zz127 K128.1
      have Sy := Sx.keep0 K128
      refine own_st (fun t k => XS.astore X128.here hx rfl (hb hby at_127) rfl rfl (l' := #[.val (.int p1), .val (.int kk), .val (.ref ca), .val (.ref c_ADMIN), .val (.ref sx), .val (.ref c_ADMIN)]) rfl k) ?_
      show own_G _ _ _ _ _ _ _ (T128.setTop (mkF m 129 #[.val (.int p1), .val (.int kk), .val (.ref ca), .val (.ref c_ADMIN), .val (.ref sx), .val (.ref c_ADMIN)] []))
      refine own_st (fun t k => XS.aload X128.here hx rfl (hb hby at_129) rfl rfl k) ?_
      show own_G _ _ _ _ _ _ _ (T128.setTop (mkF m 131 #[.val (.int p1), .val (.int kk), .val (.ref ca), .val (.ref c_ADMIN), .val (.ref sx), .val (.ref c_ADMIN)] [(.ref c_ADMIN)]))
      refine own_st (fun t k => XS.aloadN X128.here hx rfl (hb hby at_131) rfl rfl k) ?_
      show own_G _ _ _ _ _ _ _ (T128.setTop (mkF m 132 #[.val (.int p1), .val (.int kk), .val (.ref ca), .val (.ref c_ADMIN), .val (.ref sx), .val (.ref c_ADMIN)] [(.ref c_ADMIN), (.ref c_ADMIN)]))
      refine own_st (fun t k => Jvm.RoadKit.acmp (g := (mkF m 132 #[.val (.int p1), .val (.int kk), .val (.ref ca), .val (.ref c_ADMIN), .val (.ref sx), .val (.ref c_ADMIN)] [(.ref c_ADMIN), (.ref c_ADMIN)])) X128 hx rfl rfl rfl (pc0 := 132) (pc' := 135) (same := true) rfl (hb hby at_132) rfl (decide_eq_true (congrArg Value.ref rfl)) (by decide) (by decide) k) ?_
      show own_G _ _ _ _ _ _ _ (T128.setTop (mkF m 135 #[.val (.int p1), .val (.int kk), .val (.ref ca), .val (.ref c_ADMIN), .val (.ref sx), .val (.ref c_ADMIN)] []))
      refine own_st (fun t k => XS.aloadN X128.here hx rfl (hb hby at_135) rfl rfl k) ?_
      show own_G _ _ _ _ _ _ _ (T128.setTop (mkF m 136 #[.val (.int p1), .val (.int kk), .val (.ref ca), .val (.ref c_ADMIN), .val (.ref sx), .val (.ref c_ADMIN)] [(.ref c_ADMIN)]))
      obtain ⟨cq132, kq132, q132a, q132b, q132c⟩ := isOf hZ rfl (A_ADMIN.ext O_129.2)
      obtain ⟨_, _, ⟨T132, L132, k132, n132⟩, -, X132, ⟨Lc132, hQ132, l132, y132, z132⟩, st132⟩ := X128.virtualBack hx (y := (⟨"com/example/tessera/tessera/device/Role", "getName", "()Ljava/lang/String;"⟩ : MethodName)) (z := (⟨"com/example/tessera/tessera/device/Role", "getName", "()Ljava/lang/String;"⟩ : MethodName)) hown (mvT hZ (hw _ (List.mem_of_getElem? (i := 66) rfl))) (mvT hZ (hw _ (List.mem_of_getElem? (i := 67) rfl))) (notFace_of_selects (args := #[]) (mvT hZ (hw _ (List.mem_of_getElem? (i := 69) rfl)))) (mvT hZ (hw _ (List.mem_of_getElem? (i := 69) rfl))) (mvT hZ (hw _ (List.mem_of_getElem? (i := 68) rfl))) (by decide) (backOf (W := 0) (own_rm6 l Z a0 hw [] c_ADMIN n_ADMIN T128.heap n0 Zz131 (Fn_ADMIN.ext O_129.2)) hZ (hw _ (List.mem_of_getElem? (i := 70) rfl)) (hw _ (List.mem_of_getElem? (i := 3) rfl)) (by decide) (by decide)) q132a q132c (g := (mkF m 136 #[.val (.int p1), .val (.int kk), .val (.ref ca), .val (.ref c_ADMIN), .val (.ref sx), .val (.ref c_ADMIN)] [(.ref c_ADMIN)])) rfl (by rw [hml]; rfl) (Steps.refl _) (argsL := []) (rest := []) (lenOf own_pd2 rfl) rfl (by show 2 * 0 + _ ≤ _; exact Nat.le_of_eq rfl) (hb hby at_136) (fun _ _ => ⟨rfl, rfl, (by decide : 4 + 0 ≤ _), (by decide : 17 + 0 ≤ _)⟩)
      dsimp only [Pt.U, Pt.locs, Pt.cells, Pt.slots] at X132 l132 y132 z132 st132 hQ132
      subst l132 y132 z132
      obtain ⟨rfl, N132q, e132⟩ := hQ132
      have N132 := Fr.app N128 N132q
      refine own_st (fun t k => st132.trans k) ?_
      show own_G _ _ _ _ _ _ _ (T132.setTop (mkF m 139 #[.val (.int p1), .val (.int kk), .val (.ref ca), .val (.ref c_ADMIN), .val (.ref sx), .val (.ref c_ADMIN)] [(.ref n_ADMIN)]))
      refine own_st (fun t k => XS.aload X132.here hx rfl (hb hby at_139) rfl rfl k) ?_
      show own_G _ _ _ _ _ _ _ (T132.setTop (mkF m 141 #[.val (.int p1), .val (.int kk), .val (.ref ca), .val (.ref c_ADMIN), .val (.ref sx), .val (.ref c_ADMIN)] [(.ref sx), (.ref n_ADMIN)]))
      obtain ⟨Ea133, Ca133, ta133, ka133, Va133, Aa133⟩ := (id (N_ADMIN.ext O_129.2))
      obtain ⟨Eb133, Cb133, tb133, kb133, Vb133, Ab133⟩ := (id Sy)
      obtain ⟨cq134, kq134, q134a, q134b, q134c⟩ := isOf hZ e132 Ea133
      obtain ⟨_, _, ⟨T134, L134, k134, n134⟩, -, X134, ⟨Lc134, hQ134, l134, y134, z134⟩, st134⟩ := X132.virtualBack hx (y := (⟨"java/lang/String", "equals", "(Ljava/lang/Object;)Z"⟩ : MethodName)) (z := (⟨"java/lang/String", "equals", "(Ljava/lang/Object;)Z"⟩ : MethodName)) hown (mvT hZ (hw _ (List.mem_of_getElem? (i := 71) rfl))) (mvT hZ (hw _ (List.mem_of_getElem? (i := 57) rfl))) (notFace_of_selects (args := #[]) (mvT hZ (hw _ (List.mem_of_getElem? (i := 59) rfl)))) (mvT hZ (hw _ (List.mem_of_getElem? (i := 59) rfl))) (mvT hZ (hw _ (List.mem_of_getElem? (i := 58) rfl))) (by decide) (StrChars.Road.eqW (W := 0) hZ (own_heq hw) (kI := 4) (hw _ (List.mem_of_getElem? (i := 6) rfl)) Ea133 Va133 Ca133 Aa133 (own_cod _ own_pADMIN) (own_up _ own_pADMIN) (by decide) Eb133 Vb133 Cb133 Ab133 (own_cod _ own_pADMIN) (own_up _ own_pADMIN) (by decide) (Sg.ext O_129.2) hzc (by decide) (by decide)) q134a q134c (g := (mkF m 141 #[.val (.int p1), .val (.int kk), .val (.ref ca), .val (.ref c_ADMIN), .val (.ref sx), .val (.ref c_ADMIN)] [(.ref sx), (.ref n_ADMIN)])) rfl (by rw [hml]; rfl) (Steps.refl _) (argsL := [(.ref sx)]) (rest := []) (lenOf own_pd4 rfl) rfl (by show 2 * 0 + _ ≤ _; exact Nat.le_of_eq rfl) (hb hby at_141) (fun _ _ => ⟨rfl, e132, (by decide : 4 + 0 ≤ _), (by decide : 17 + 0 ≤ _)⟩)
      dsimp only [Pt.U, Pt.locs, Pt.cells, Pt.slots] at X134 l134 y134 z134 st134 hQ134
      subst l134 y134 z134
      obtain ⟨hc134, rfl, e134⟩ := hQ134
      have hv134 : _ = some (Value.int 1) := hc134.elim (fun q => q.1) (fun q => absurd rfl q.2)
      subst hv134
      have N134 := Fr.app N132 (Fr.nil n0)
      refine own_st (fun t k => st134.trans k) ?_
      show own_G _ _ _ _ _ _ _ (T134.setTop (mkF m 144 #[.val (.int p1), .val (.int kk), .val (.ref ca), .val (.ref c_ADMIN), .val (.ref sx), .val (.ref c_ADMIN)] [(.int (1 : Int32))]))
      refine own_st (fun t k => XS.ifNo X134.here hx rfl (hb hby at_144) rfl ((if0 _ _).trans (feq (by decide)).1) k) ?_
      show own_G _ _ _ _ _ _ _ (T134.setTop (mkF m 147 #[.val (.int p1), .val (.int kk), .val (.ref ca), .val (.ref c_ADMIN), .val (.ref sx), .val (.ref c_ADMIN)] []))
      refine own_st (fun t k => XS.iconst X134.here hx rfl (hb hby at_147) k) ?_
      show own_G _ _ _ _ _ _ _ (T134.setTop (mkF m 148 #[.val (.int p1), .val (.int kk), .val (.ref ca), .val (.ref c_ADMIN), .val (.ref sx), .val (.ref c_ADMIN)] [(.int (1 : Int32))]))
      refine own_st (fun t k => XS.goto X134.here hx rfl (pc0 := 148) (pc' := 152) rfl (hb hby at_148) (by decide) (by decide) k) ?_
      show own_G _ _ _ _ _ _ _ (T134.setTop (mkF m 152 #[.val (.int p1), .val (.int kk), .val (.ref ca), .val (.ref c_ADMIN), .val (.ref sx), .val (.ref c_ADMIN)] [(.int (1 : Int32))]))
      exact own_retN (t := .boolean) (by simp) X134 hx Bd.returns (BodyLoose.notSynchronized Bd) (hb hby at_152) (by decide) (by decide) ⟨rfl, N134⟩
set_option maxRecDepth 65536 in
set_option maxHeartbeats 40000000 in
theorem own_comes {Post : Tables → Env → Array Value → State → Outcome → State → Prop} (hpost : ∀ tb e args s v u, (limb_1_1.after args s (.returned v) u = true ∧ limb_1_2.after args s (.returned v) u = true ∧ True) → FrameEnd s (.returned v) u (Jvm.fieldLocs frame_1_writes args s ++ Jvm.arrayLocs frame_1_arrays args s ++ Jvm.staticLocs frame_1_statics s) 16 128 → Post tb e args s (.returned v) u) :
    ArmFor flags0 classFile x code maxLocals ret World_1 tables_1 room_1 Calls_1 rest_1 Pre_1 Post := by
  intro l hfl _ _ p e ha hc hk s m args below hf hA hF happ hP
  obtain ⟨hcalls, hrest, hpre⟩ := hP
  obtain ⟨-, -, -, hnamed, -, -, -, hat⟩ := (Spec.applies_iff hf).mp happ
  obtain ⟨hg, hn⟩ := and_e (Cond.before_iff.mp (show (Jvm.Cond.and given_1 narrow_1).before args s = true from hpre))
  obtain ⟨gc, ga0⟩ := and_e hg
  obtain ⟨w0, rfl⟩ : ∃ w0 : Value, args = #[w0] := by
    have hs : args.size = 1 := by simpa [Cond.value, given_1] using gc
    obtain ⟨L⟩ := args
    match L, hs with
    | [w0], _ => exact ⟨w0, rfl⟩
  have hw := fun d (hd : d ∈ tables_1) => atoms_spec (ws := Jvm.Cond.code x code maxLocals ret :: tables_1) hat d (List.mem_cons_of_mem _ hd)
  have hfit : Fit s := fun {y c} hc i hi => by
    obtain ⟨ha, rfl⟩ := Array.getElem?_eq_some_iff.mp hc
    have q := List.all_eq_true.mp ((Array.all_eq_true_iff_forall_mem.mp hF) _ (Array.getElem_mem ha)) i (List.mem_range.mpr hi)
    simpa [Array.getElem?_eq_getElem hi] using q
  obtain ⟨hsets, hown0⟩ := atoms_of _ (rest_1_c_eq ▸ (show rest_1_c.before _ s = true from hrest))
  obtain ⟨i0, ei0⟩ := is_v ga0
  obtain rfl : w0 = (.int i0) := Option.some.inj ei0
  obtain ⟨nr0, nq0⟩ := and_e hn
  obtain ⟨nr1, nq1⟩ := and_e nq0
  obtain ⟨nr2, nq2⟩ := and_e nq1
  obtain ⟨nr3, nq3⟩ := and_e nq2
  obtain ⟨nr4, nq4⟩ := and_e nq3
  obtain ⟨nr5, nq5⟩ := and_e nq4
  obtain ⟨nr6, nq6⟩ := and_e nq5
  obtain ⟨nr7, nq7⟩ := and_e nq6
  obtain ⟨nr8, nq8⟩ := and_e nq7
  obtain ⟨nr9, nq9⟩ := and_e nq8
  obtain ⟨nr10, nq10⟩ := and_e nq9
  obtain ⟨nr11, nq11⟩ := and_e nq10
  obtain ⟨nr12, nq12⟩ := and_e nq11
  obtain ⟨nr13, nq13⟩ := and_e nq12
  obtain ⟨nr14, nq14⟩ := and_e nq13
  obtain ⟨nr15, nq15⟩ := and_e nq14
  obtain ⟨nr16, nq16⟩ := and_e nq15
  obtain ⟨nr17, nq17⟩ := and_e nq16
  obtain ⟨nr18, nq18⟩ := and_e nq17
  obtain ⟨nr19, nq19⟩ := and_e nq18
  obtain ⟨nr20, nq20⟩ := and_e nq19
  obtain ⟨nr21, nq21⟩ := and_e nq20
  obtain ⟨nr22, nq22⟩ := and_e nq21
  obtain ⟨nr23, nq23⟩ := and_e nq22
  obtain ⟨nr24, nq24⟩ := and_e nq23
  obtain ⟨nr25, nq25⟩ := and_e nq24
  obtain ⟨nr26, nq26⟩ := and_e nq25
  obtain ⟨nr27, nq27⟩ := and_e nq26
  obtain ⟨nr28, nq28⟩ := and_e nq27
  obtain ⟨nr29, nq29⟩ := and_e nq28
  obtain ⟨nr30, nq30⟩ := and_e nq29
  obtain ⟨nr31, nq31⟩ := and_e nq30
  obtain ⟨nr32, nq32⟩ := and_e nq31
  obtain ⟨c_CLIENT, ev_CLIENT⟩ := exa_v nr0
  have A_CLIENT := Exa.start ev_CLIENT nr0
  have S_CLIENT := Sta.start ev_CLIENT (Or.inr ⟨(hw _ (List.mem_of_getElem? (i := 3) rfl)), (hw _ (List.mem_of_getElem? (i := 4) rfl))⟩)
  obtain ⟨n_CLIENT, en_CLIENT⟩ := exa_v nr9
  have Fn_CLIENT := Fld.start ((fld_at ev_CLIENT).symm.trans en_CLIENT)
  have En_CLIENT := Exa.start en_CLIENT nr9
  have Co_CLIENT := own_ord en_CLIENT nr10
  obtain ⟨t_CLIENT, et_CLIENT⟩ := arr_v nr11
  have Ft_CLIENT := Fld.start ((fld_at en_CLIENT).symm.trans et_CLIENT)
  obtain ⟨d_CLIENT, Ar_CLIENT⟩ := Arr.start et_CLIENT nr11
  obtain ⟨q_CLIENT, l_CLIENT⟩ := own_len et_CLIENT Ar_CLIENT nr12
  have H_CLIENT : HasL d_CLIENT 0 ((own_cCLIENT.map fun c => c.toInt8.toInt32).map Value.int) := ⟨(own_el et_CLIENT Ar_CLIENT (j := 0) (eqv_i (Term.int_eval 99) nr23)).trans (congrArg (fun z => some (Value.int z)) (show (99 : Int32) = (99 : Int32).toInt8.toInt32 from by decide)), (own_el et_CLIENT Ar_CLIENT (j := 1) (eqv_i (Term.int_eval 108) nr24)).trans (congrArg (fun z => some (Value.int z)) (show (108 : Int32) = (108 : Int32).toInt8.toInt32 from by decide)), (own_el et_CLIENT Ar_CLIENT (j := 2) (eqv_i (Term.int_eval 105) nr25)).trans (congrArg (fun z => some (Value.int z)) (show (105 : Int32) = (105 : Int32).toInt8.toInt32 from by decide)), (own_el et_CLIENT Ar_CLIENT (j := 3) (eqv_i (Term.int_eval 101) nr26)).trans (congrArg (fun z => some (Value.int z)) (show (101 : Int32) = (101 : Int32).toInt8.toInt32 from by decide)), (own_el et_CLIENT Ar_CLIENT (j := 4) (eqv_i (Term.int_eval 110) nr27)).trans (congrArg (fun z => some (Value.int z)) (show (110 : Int32) = (110 : Int32).toInt8.toInt32 from by decide)), (own_el et_CLIENT Ar_CLIENT (j := 5) (eqv_i (Term.int_eval 116) nr28)).trans (congrArg (fun z => some (Value.int z)) (show (116 : Int32) = (116 : Int32).toInt8.toInt32 from by decide)), trivial⟩
  have N_CLIENT : own_S s s.heap n_CLIENT own_cCLIENT := ⟨En_CLIENT, Co_CLIENT, t_CLIENT, d_CLIENT.cls, Ft_CLIENT, Arv.start hfit Ar_CLIENT q_CLIENT l_CLIENT (by decide) (by decide) H_CLIENT⟩
  obtain ⟨c_RS, ev_RS⟩ := exa_v nr5
  have A_RS := Exa.start ev_RS nr5
  have S_RS := Sta.start ev_RS (Or.inr ⟨(hw _ (List.mem_of_getElem? (i := 3) rfl)), (hw _ (List.mem_of_getElem? (i := 49) rfl))⟩)
  obtain ⟨n_RS, en_RS⟩ := exa_v nr13
  have Fn_RS := Fld.start ((fld_at ev_RS).symm.trans en_RS)
  have En_RS := Exa.start en_RS nr13
  have Co_RS := own_ord en_RS nr14
  obtain ⟨t_RS, et_RS⟩ := arr_v nr15
  have Ft_RS := Fld.start ((fld_at en_RS).symm.trans et_RS)
  obtain ⟨d_RS, Ar_RS⟩ := Arr.start et_RS nr15
  obtain ⟨q_RS, l_RS⟩ := own_len et_RS Ar_RS nr16
  have H_RS : HasL d_RS 0 ((own_cRS.map fun c => c.toInt8.toInt32).map Value.int) := ⟨(own_el et_RS Ar_RS (j := 0) (eqv_i (Term.int_eval 114) nr21)).trans (congrArg (fun z => some (Value.int z)) (show (114 : Int32) = (114 : Int32).toInt8.toInt32 from by decide)), (own_el et_RS Ar_RS (j := 1) (eqv_i (Term.int_eval 115) nr22)).trans (congrArg (fun z => some (Value.int z)) (show (115 : Int32) = (115 : Int32).toInt8.toInt32 from by decide)), trivial⟩
  have N_RS : own_S s s.heap n_RS own_cRS := ⟨En_RS, Co_RS, t_RS, d_RS.cls, Ft_RS, Arv.start hfit Ar_RS q_RS l_RS (by decide) (by decide) H_RS⟩
  obtain ⟨c_ADMIN, ev_ADMIN⟩ := exa_v nr7
  have A_ADMIN := Exa.start ev_ADMIN nr7
  have S_ADMIN := Sta.start ev_ADMIN (Or.inr ⟨(hw _ (List.mem_of_getElem? (i := 3) rfl)), (hw _ (List.mem_of_getElem? (i := 50) rfl))⟩)
  obtain ⟨n_ADMIN, en_ADMIN⟩ := exa_v nr17
  have Fn_ADMIN := Fld.start ((fld_at ev_ADMIN).symm.trans en_ADMIN)
  have En_ADMIN := Exa.start en_ADMIN nr17
  have Co_ADMIN := own_ord en_ADMIN nr18
  obtain ⟨t_ADMIN, et_ADMIN⟩ := arr_v nr19
  have Ft_ADMIN := Fld.start ((fld_at en_ADMIN).symm.trans et_ADMIN)
  obtain ⟨d_ADMIN, Ar_ADMIN⟩ := Arr.start et_ADMIN nr19
  obtain ⟨q_ADMIN, l_ADMIN⟩ := own_len et_ADMIN Ar_ADMIN nr20
  have H_ADMIN : HasL d_ADMIN 0 ((own_cADMIN.map fun c => c.toInt8.toInt32).map Value.int) := ⟨(own_el et_ADMIN Ar_ADMIN (j := 0) (eqv_i (Term.int_eval 97) nr29)).trans (congrArg (fun z => some (Value.int z)) (show (97 : Int32) = (97 : Int32).toInt8.toInt32 from by decide)), (own_el et_ADMIN Ar_ADMIN (j := 1) (eqv_i (Term.int_eval 100) nr30)).trans (congrArg (fun z => some (Value.int z)) (show (100 : Int32) = (100 : Int32).toInt8.toInt32 from by decide)), (own_el et_ADMIN Ar_ADMIN (j := 2) (eqv_i (Term.int_eval 109) nr31)).trans (congrArg (fun z => some (Value.int z)) (show (109 : Int32) = (109 : Int32).toInt8.toInt32 from by decide)), (own_el et_ADMIN Ar_ADMIN (j := 3) (eqv_i (Term.int_eval 105) nr32)).trans (congrArg (fun z => some (Value.int z)) (show (105 : Int32) = (105 : Int32).toInt8.toInt32 from by decide)), (own_el et_ADMIN Ar_ADMIN (j := 4) (eqv_i (Term.int_eval 110) nq32)).trans (congrArg (fun z => some (Value.int z)) (show (110 : Int32) = (110 : Int32).toInt8.toInt32 from by decide)), trivial⟩
  have N_ADMIN : own_S s s.heap n_ADMIN own_cADMIN := ⟨En_ADMIN, Co_ADMIN, t_ADMIN, d_ADMIN.cls, Ft_ADMIN, Arv.start hfit Ar_ADMIN q_ADMIN l_ADMIN (by decide) (by decide) H_ADMIN⟩
  obtain ⟨va, evv⟩ := exa_v nr2
  have Ev := Exa.start evv nr2
  have Sv := Sta.start evv (Or.inr ⟨(hw _ (List.mem_of_getElem? (i := 3) rfl)), (hw _ (List.mem_of_getElem? (i := 41) rfl))⟩)
  obtain ⟨dv, Av⟩ := Arr.start evv nr1
  obtain ⟨qv, lv⟩ := own_len evv Av nr3
  have Vv : Arv s s.heap va dv.cls (.object "com/example/tessera/tessera/device/Role") 3 [.ref c_CLIENT, .ref c_RS, .ref c_ADMIN] .null := Arv.start hfit Av qv lv (by decide) rfl ⟨own_el evv Av (j := 0) (own_eqr ev_CLIENT nr4), own_el evv Av (j := 1) (own_eqr ev_RS nr6), own_el evv Av (j := 2) (own_eqr ev_ADMIN nr8), trivial⟩
  obtain ⟨zc, ez⟩ := is_v (Cond.before_iff.mp (hsets _ (List.mem_of_getElem? (i := 1) rfl)))
  have Sg : Sta s s.heap "java/lang/String" "COMPACT_STRINGS" "Z" (.int zc) := Sta.start ez (Or.inl (hsets _ (List.mem_of_getElem? (i := 0) rfl)))
  have hzc : ¬ (zc = (0 : Int32)) := gotF (Cond.eq_ints ez (Term.int_eval (0))) (not_v (Cond.before_iff.mp (hsets _ (List.mem_of_getElem? (i := 2) rfl))))
  obtain ⟨n, o, h1, h2, h3, _, L, rfl, ⟨rfl, N⟩, hq⟩ := own_rm0 l s _ hw tables_1 i0 va dv.cls c_CLIENT c_RS c_ADMIN n_CLIENT n_RS n_ADMIN zc s.heap s.heap.size (Nat.le_refl _) (Old.start s) Sv Vv Ev Sg hzc Fn_CLIENT N_CLIENT Fn_RS N_RS Fn_ADMIN N_ADMIN S_CLIENT A_CLIENT S_RS A_RS S_ADMIN A_ADMIN p e ha hc hk s m _ below hf ((Spec.applies_iff_loose hf).mp happ).1 ⟨rfl, State.Warmed39.refl s, rfl⟩ trivial
  refine ⟨n, _, h1, h2, h3, hpost _ _ _ _ _ _ ⟨Cond.after_iff.mpr rfl, Cond.after_iff.mpr (eq_i res_at (Term.int_eval (1)) rfl), trivial⟩ ⟨hq.1, hq.2.1, (hq.2.2.sift fun y hy => Or.inr (N y hy)).mono (by decide) (by decide)⟩⟩
theorem main_1_1 : Claimed_1_1 := own_comes fun _ _ _ _ _ _ h hF => ⟨h.1, hF⟩
theorem main_1_2 : Claimed_1_2 := own_comes fun _ _ _ _ _ _ h hF => ⟨h.2.1, hF⟩
end Jvm.Pilot.@@N@@
namespace Jvm.Pilot.@@N@@
open Jvm Jvm.ClassFile Sem Op Lib Jvm.Free Jvm.Stand Jvm.Pilot.@@N@@.Jvm.D
/-! MADE BY PROGRAM (witnessworld.py) out of the Statement's table words and the real class files: 22 classes; the members and pool entries that the words name. The judged class is class 1, her method 1. -/
namespace start1
open Jvm.ClassFile
def u (s : String) : CpInfo := .utf8 (stringToUtf16 s)
/-- a pool by its gaps: so many unusable entries, then the entry; so many at the end -/
def gap : Nat → List CpInfo → List CpInfo
  | 0, r => r
  | n + 1, r => .unusable :: gap n r
def poolList (es : List (Nat × CpInfo)) (last : Nat) : List CpInfo := es.foldr (fun e r => gap e.1 (e.2 :: r)) (gap last [])
def pool (es : List (Nat × CpInfo)) (last : Nat) : Array CpInfo := ⟨poolList es last⟩
def fileOf (pool : Array CpInfo) (this : Nat) (attrs : Array Attribute := #[]) (ms : Array MethodInfo := #[]) (fl : Nat := 33) (sup : Nat := 0) (ifs : Array Nat := #[]) (fds : Array FieldInfo := #[]) : ClassFile where
  minorVersion := 0
  majorVersion := 65
  constantPool := pool
  accessFlags := fl
  thisClass := this
  superClass := sup
  interfaces := ifs
  fields := fds
  methods := ms
  attributes := attrs
def plain (name : String) (sup : Option ClassId) : Class where
  name := name
  kind := .ordinary
  loader := none
  accessFlags := 33
  super := sup
  interfaces := #[]
  cf := none
  fields := #[]
  methods := #[]
  instanceTypes := #[]
  staticTypes := #[]
  resolved := #[]
  callSites := []
  init := .initialized
  statics := none
  mirror := none

def pool0 : Array CpInfo := pool [(5, u "<init>"), (0, u "()V"), (1, .class_ 10), (1, u "java/lang/Object"), (85, u "clone"), (0, u "()Ljava/lang/Object;")] 26

def k0c0 : Code := { maxStack := 0, maxLocals := 1, code := object_method_1_code, exceptionTable := #[], attributes := #[] }
def k0m0 : Method := { name := "<init>", desc := "()V", sig := { parameters := [], returnType := none }, accessFlags := 1, code := some k0c0 }
def k0m1 : Method := { name := "clone", desc := "()Ljava/lang/Object;", sig := { parameters := [], returnType := some (.object "java/lang/Object") }, accessFlags := 260, code := none }
/-- java/lang/Object -/
def k0 : Class := { plain "java/lang/Object" none with
  accessFlags := 33
  interfaces := #[]
  cf := some (fileOf pool0 8 #[] #[{ accessFlags := 1, nameIndex := 5, descriptorIndex := 6, attributes := #[] }, { accessFlags := 260, nameIndex := 96, descriptorIndex := 97, attributes := #[] }] 33 0 #[] #[])
  fields := #[]
  methods := #[k0m0, k0m1]
  instanceTypes := #[]
  staticTypes := #[]
  resolved := Array.replicate 124 none
  statics := none }

def pool1 : Array CpInfo := pool [(2, .class_ 4), (1, u "java/lang/Object"), (0, u "<init>"), (0, u "()V"), (0, .integer 2147483647), (0, .fieldref 9 10), (0, .class_ 11), (0, .nameAndType 12 13), (0, u "com/example/tessera/tessera/device/Role"), (0, u "CLIENT"), (0, u "Lcom/example/tessera/tessera/device/Role;"), (0, .fieldref 9 15), (0, .nameAndType 16 13), (0, u "RS"), (0, .fieldref 9 18), (0, .nameAndType 19 13), (0, u "ADMIN"), (0, .class_ 21), (0, u "java/lang/String"), (0, .methodref 20 23), (0, .nameAndType 5 24), (0, u "([C)V"), (0, .methodref 9 26), (0, .nameAndType 27 28), (0, u "named"), (0, u "(Ljava/lang/String;)Lcom/example/tessera/tessera/device/Role;"), (0, .methodref 9 30), (0, .nameAndType 31 32), (0, u "getName"), (0, u "()Ljava/lang/String;"), (0, .methodref 20 34), (0, .nameAndType 35 36), (0, u "equals"), (0, u "(Ljava/lang/Object;)Z"), (0, .class_ 38), (0, u "com/example/tessera/tessera/device/RoleNamedPinLaw"), (2, u "law"), (0, u "(I)Z")] 5

def k1m0 : Method := { name := "<init>", desc := "()V", sig := { parameters := [], returnType := none }, accessFlags := 1, code := none }
def k1c1 : Code := { maxStack := 4, maxLocals := 6, code := code, exceptionTable := #[], attributes := #[] }
def k1m1 : Method := { name := "law", desc := "(I)Z", sig := { parameters := [.int], returnType := some .boolean }, accessFlags := 9, code := some k1c1 }
/-- com/example/tessera/tessera/device/RoleNamedPinLaw -/
def k1 : Class := { plain "com/example/tessera/tessera/device/RoleNamedPinLaw" (some 0) with
  accessFlags := 49
  interfaces := #[]
  cf := some (fileOf pool1 37 #[] #[{ accessFlags := 1, nameIndex := 5, descriptorIndex := 6, attributes := #[] }, { accessFlags := 9, nameIndex := 41, descriptorIndex := 42, attributes := #[] }] 49 2 #[] #[])
  fields := #[]
  methods := #[k1m0, k1m1]
  instanceTypes := #[]
  staticTypes := #[]
  resolved := Array.replicate 48 none
  statics := none }

def pool2 : Array CpInfo := pool [(1, .class_ 2), (0, u "java/lang/constant/Constable"), (0, .class_ 4), (0, u "java/lang/Object")] 6

/-- java/lang/constant/Constable -/
def k2 : Class := { plain "java/lang/constant/Constable" (some 0) with
  accessFlags := 1537
  interfaces := #[]
  cf := some (fileOf pool2 1 #[] #[] 1537 3 #[] #[])
  fields := #[]
  methods := #[]
  instanceTypes := #[]
  staticTypes := #[]
  resolved := Array.replicate 11 none
  statics := none }

def pool3 : Array CpInfo := pool [(1, .class_ 2), (0, u "java/lang/Comparable"), (0, .class_ 4), (0, u "java/lang/Object")] 7

/-- java/lang/Comparable -/
def k3 : Class := { plain "java/lang/Comparable" (some 0) with
  accessFlags := 1537
  interfaces := #[]
  cf := some (fileOf pool3 1 #[] #[] 1537 3 #[] #[])
  fields := #[]
  methods := #[]
  instanceTypes := #[]
  staticTypes := #[]
  resolved := Array.replicate 12 none
  statics := none }

def pool4 : Array CpInfo := pool [(1, .class_ 2), (0, u "java/io/Serializable"), (0, .class_ 4), (0, u "java/lang/Object")] 2

/-- java/io/Serializable -/
def k4 : Class := { plain "java/io/Serializable" (some 0) with
  accessFlags := 1537
  interfaces := #[]
  cf := some (fileOf pool4 1 #[] #[] 1537 3 #[] #[])
  fields := #[]
  methods := #[]
  instanceTypes := #[]
  staticTypes := #[]
  resolved := Array.replicate 7 none
  statics := none }

def pool5 : Array CpInfo := pool [(2, .class_ 4), (1, u "java/lang/Enum"), (0, u "name"), (0, u "Ljava/lang/String;"), (2, u "ordinal"), (0, u "I"), (1, .class_ 14), (1, u "java/lang/Object"), (4, u "hash"), (86, .class_ 108), (1, u "java/lang/Enum$EnumDesc"), (2, .class_ 112), (0, u "java/lang/constant/Constable"), (0, .class_ 114), (0, u "java/lang/Comparable"), (0, .class_ 116), (0, u "java/io/Serializable")] 87

/-- java/lang/Enum -/
def k5 : Class := { plain "java/lang/Enum" (some 0) with
  accessFlags := 1057
  interfaces := #[2, 3, 4]
  cf := some (fileOf pool5 2 #[.nestMembers #[106]] #[] 1057 12 #[111, 113, 115] #[{ accessFlags := 18, nameIndex := 5, descriptorIndex := 6, attributes := #[] }, { accessFlags := 18, nameIndex := 9, descriptorIndex := 10, attributes := #[] }, { accessFlags := 2, nameIndex := 19, descriptorIndex := 10, attributes := #[] }])
  fields := #[{ name := "name", type := (.object "java/lang/String"), accessFlags := 18, slot := 0, constantValue := 0 }, { name := "ordinal", type := .int, accessFlags := 18, slot := 1, constantValue := 0 }, { name := "hash", type := .int, accessFlags := 2, slot := 2, constantValue := 0 }]
  methods := #[]
  instanceTypes := #[(.object "java/lang/String"), .int, .int]
  staticTypes := #[]
  resolved := Array.replicate 204 none
  statics := none }

def pool6 : Array CpInfo := pool [(1, .class_ 2), (0, u "com/example/tessera/tessera/device/Role"), (2, u "CLIENT"), (0, u "Lcom/example/tessera/tessera/device/Role;"), (2, u "RS"), (2, u "ADMIN"), (0, .fieldref 1 14), (0, .nameAndType 15 16), (0, u "$VALUES"), (0, u "[Lcom/example/tessera/tessera/device/Role;"), (0, .methodref 18 19), (0, .class_ 16), (0, .nameAndType 20 21), (0, u "clone"), (0, u "()Ljava/lang/Object;"), (1, .class_ 25), (1, u "java/lang/Enum"), (6, .fieldref 1 33), (0, .nameAndType 34 35), (0, u "name"), (0, u "Ljava/lang/String;"), (0, .methodref 1 37), (0, .nameAndType 38 39), (0, u "values"), (0, u "()[Lcom/example/tessera/tessera/device/Role;"), (0, .methodref 41 42), (0, .class_ 43), (0, .nameAndType 44 45), (0, u "java/lang/String"), (0, u "equals"), (0, u "(Ljava/lang/Object;)Z"), (54, u "(Ljava/lang/String;)Lcom/example/tessera/tessera/device/Role;"), (2, u "getName"), (0, u "()Ljava/lang/String;"), (0, u "named")] 35

def k6c0 : Code := { maxStack := 1, maxLocals := 0, code := prog_4_method_1_code, exceptionTable := #[], attributes := #[] }
def k6m0 : Method := { name := "values", desc := "()[Lcom/example/tessera/tessera/device/Role;", sig := { parameters := [], returnType := some (.array (.object "com/example/tessera/tessera/device/Role")) }, accessFlags := 9, code := some k6c0 }
def k6c1 : Code := { maxStack := 1, maxLocals := 1, code := prog_4_method_4_code, exceptionTable := #[], attributes := #[] }
def k6m1 : Method := { name := "getName", desc := "()Ljava/lang/String;", sig := { parameters := [], returnType := some (.object "java/lang/String") }, accessFlags := 1, code := some k6c1 }
def k6c2 : Code := { maxStack := 5, maxLocals := 5, code := prog_4_method_5_code, exceptionTable := #[], attributes := #[] }
def k6m2 : Method := { name := "named", desc := "(Ljava/lang/String;)Lcom/example/tessera/tessera/device/Role;", sig := { parameters := [(.object "java/lang/String")], returnType := some (.object "com/example/tessera/tessera/device/Role") }, accessFlags := 9, code := some k6c2 }
/-- com/example/tessera/tessera/device/Role -/
def k6 : Class := { plain "com/example/tessera/tessera/device/Role" (some 5) with
  accessFlags := 16433
  interfaces := #[]
  cf := some (fileOf pool6 1 #[] #[{ accessFlags := 9, nameIndex := 38, descriptorIndex := 39, attributes := #[] }, { accessFlags := 1, nameIndex := 103, descriptorIndex := 104, attributes := #[] }, { accessFlags := 9, nameIndex := 105, descriptorIndex := 100, attributes := #[] }] 16433 23 #[] #[{ accessFlags := 16409, nameIndex := 5, descriptorIndex := 6, attributes := #[] }, { accessFlags := 16409, nameIndex := 9, descriptorIndex := 6, attributes := #[] }, { accessFlags := 16409, nameIndex := 12, descriptorIndex := 6, attributes := #[] }, { accessFlags := 18, nameIndex := 34, descriptorIndex := 35, attributes := #[] }, { accessFlags := 4122, nameIndex := 15, descriptorIndex := 16, attributes := #[] }])
  fields := #[{ name := "CLIENT", type := (.object "com/example/tessera/tessera/device/Role"), accessFlags := 16409, slot := 0, constantValue := 0 }, { name := "RS", type := (.object "com/example/tessera/tessera/device/Role"), accessFlags := 16409, slot := 1, constantValue := 0 }, { name := "ADMIN", type := (.object "com/example/tessera/tessera/device/Role"), accessFlags := 16409, slot := 2, constantValue := 0 }, { name := "name", type := (.object "java/lang/String"), accessFlags := 18, slot := 3, constantValue := 0 }, { name := "$VALUES", type := (.array (.object "com/example/tessera/tessera/device/Role")), accessFlags := 4122, slot := 3, constantValue := 0 }]
  methods := #[k6m0, k6m1, k6m2]
  instanceTypes := #[(.object "java/lang/String"), .int, .int, (.object "java/lang/String")]
  staticTypes := #[(.object "com/example/tessera/tessera/device/Role"), (.object "com/example/tessera/tessera/device/Role"), (.object "com/example/tessera/tessera/device/Role"), (.array (.object "com/example/tessera/tessera/device/Role"))]
  resolved := Array.replicate 141 none
  statics := some 0 }

def pool7 : Array CpInfo := pool [(2, .class_ 4), (1, u "java/lang/CharSequence"), (42, .class_ 48), (0, u "java/lang/CharSequence$1CodePointIterator"), (10, .class_ 60), (0, u "java/lang/CharSequence$1CharIterator"), (5, .class_ 67), (0, u "java/lang/Object")] 63

/-- java/lang/CharSequence -/
def k7 : Class := { plain "java/lang/CharSequence" (some 0) with
  accessFlags := 1537
  interfaces := #[]
  cf := some (fileOf pool7 2 #[.nestMembers #[47, 59]] #[] 1537 66 #[] #[])
  fields := #[]
  methods := #[]
  instanceTypes := #[]
  staticTypes := #[]
  resolved := Array.replicate 131 none
  statics := none }

def pool8 : Array CpInfo := pool [(1, .class_ 2), (0, u "java/lang/constant/ConstantDesc"), (0, .class_ 4), (0, u "java/lang/Object")] 32

/-- java/lang/constant/ConstantDesc -/
def k8 : Class := { plain "java/lang/constant/ConstantDesc" (some 0) with
  accessFlags := 1537
  interfaces := #[]
  cf := some (fileOf pool8 1 #[] #[] 1537 3 #[] #[])
  fields := #[]
  methods := #[]
  instanceTypes := #[]
  staticTypes := #[]
  resolved := Array.replicate 37 none
  statics := none }

def pool9 : Array CpInfo := pool [(1, .methodref 2 3), (0, .class_ 4), (0, .nameAndType 5 6), (0, u "java/lang/Object"), (0, u "<init>"), (0, u "()V"), (2, .fieldref 10 11), (0, .class_ 12), (0, .nameAndType 13 14), (0, u "java/lang/String"), (0, u "value"), (0, u "[B"), (0, .fieldref 10 16), (0, .nameAndType 17 18), (0, u "coder"), (0, u "B"), (2, u "hash"), (0, u "I"), (2, u "hashIsZero"), (0, u "Z"), (0, .methodref 10 28), (0, .nameAndType 5 29), (0, u "([CIILjava/lang/Void;)V"), (8, .fieldref 10 39), (0, .nameAndType 40 26), (0, u "COMPACT_STRINGS"), (1, .class_ 44), (1, u "java/lang/StringUTF16"), (0, u "compress"), (1, .methodref 42 48), (0, .nameAndType 49 50), (0, u "coderFromArrayLen"), (0, u "([BI)B"), (56, .class_ 109), (1, u "java/lang/StringLatin1"), (67, .methodref 42 178), (0, .nameAndType 45 179), (0, u "([CII)[B"), (361, .methodref 107 542), (0, .nameAndType 543 544), (0, u "equals"), (0, u "([B[B)Z"), (28, u "(Ljava/lang/Object;)Z"), (1, .class_ 576), (0, u "java/lang/CharSequence"), (22, u "CASE_INSENSITIVE_ORDER"), (0, u "Ljava/util/Comparator;"), (409, u "([C)V"), (90, u "serialPersistentFields"), (0, u "[Ljava/io/ObjectStreamField;"), (0, .class_ 1104), (0, u "java/lang/String$CaseInsensitiveComparator"), (1, .class_ 1107), (0, u "java/io/Serializable"), (0, .class_ 1109), (0, u "java/lang/Comparable"), (0, .class_ 1111), (0, u "java/lang/constant/Constable"), (0, .class_ 1113), (0, u "java/lang/constant/ConstantDesc"), (2, u "serialVersionUID"), (0, u "J"), (3, u "REPL"), (0, u "C"), (2, u "LATIN1"), (1, u "UTF16")] 323

def k9m0 : Method := { name := "<init>", desc := "()V", sig := { parameters := [], returnType := none }, accessFlags := 1, code := none }
def k9c1 : Code := { maxStack := 5, maxLocals := 2, code := jdk_42_method_3_code, exceptionTable := #[], attributes := #[] }
def k9m1 : Method := { name := "<init>", desc := "([C)V", sig := { parameters := [(.array .char)], returnType := none }, accessFlags := 1, code := some k9c1 }
def k9c2 : Code := { maxStack := 2, maxLocals := 3, code := jdk_42_method_66_code, exceptionTable := #[], attributes := #[] }
def k9m2 : Method := { name := "equals", desc := "(Ljava/lang/Object;)Z", sig := { parameters := [(.object "java/lang/Object")], returnType := some .boolean }, accessFlags := 1, code := some k9c2 }
def k9c3 : Code := { maxStack := 4, maxLocals := 6, code := jdk_42_method_149_code, exceptionTable := #[], attributes := #[] }
def k9m3 : Method := { name := "<init>", desc := "([CIILjava/lang/Void;)V", sig := { parameters := [(.array .char), .int, .int, (.object "java/lang/Void")], returnType := none }, accessFlags := 2, code := some k9c3 }
/-- java/lang/String -/
def k9 : Class := { plain "java/lang/String" (some 0) with
  accessFlags := 49
  interfaces := #[4, 3, 7, 2, 8]
  cf := some (fileOf pool9 10 #[.nestMembers #[1103]] #[{ accessFlags := 1, nameIndex := 5, descriptorIndex := 6, attributes := #[] }, { accessFlags := 1, nameIndex := 5, descriptorIndex := 1010, attributes := #[] }, { accessFlags := 1, nameIndex := 543, descriptorIndex := 573, attributes := #[] }, { accessFlags := 2, nameIndex := 5, descriptorIndex := 29, attributes := #[] }] 49 2 #[1106, 1108, 575, 1110, 1112] #[{ accessFlags := 18, nameIndex := 13, descriptorIndex := 14, attributes := #[] }, { accessFlags := 18, nameIndex := 17, descriptorIndex := 18, attributes := #[] }, { accessFlags := 2, nameIndex := 21, descriptorIndex := 22, attributes := #[] }, { accessFlags := 2, nameIndex := 25, descriptorIndex := 26, attributes := #[] }, { accessFlags := 26, nameIndex := 1116, descriptorIndex := 1117, attributes := #[] }, { accessFlags := 24, nameIndex := 40, descriptorIndex := 26, attributes := #[] }, { accessFlags := 26, nameIndex := 1101, descriptorIndex := 1102, attributes := #[] }, { accessFlags := 26, nameIndex := 1121, descriptorIndex := 1122, attributes := #[] }, { accessFlags := 25, nameIndex := 599, descriptorIndex := 600, attributes := #[] }, { accessFlags := 24, nameIndex := 1125, descriptorIndex := 18, attributes := #[] }, { accessFlags := 24, nameIndex := 1127, descriptorIndex := 18, attributes := #[] }])
  fields := #[{ name := "value", type := (.array .byte), accessFlags := 18, slot := 0, constantValue := 0 }, { name := "coder", type := .byte, accessFlags := 18, slot := 1, constantValue := 0 }, { name := "hash", type := .int, accessFlags := 2, slot := 2, constantValue := 0 }, { name := "hashIsZero", type := .boolean, accessFlags := 2, slot := 3, constantValue := 0 }, { name := "serialVersionUID", type := .long, accessFlags := 26, slot := 0, constantValue := 0 }, { name := "COMPACT_STRINGS", type := .boolean, accessFlags := 24, slot := 1, constantValue := 0 }, { name := "serialPersistentFields", type := (.array (.object "java/io/ObjectStreamField")), accessFlags := 26, slot := 2, constantValue := 0 }, { name := "REPL", type := .char, accessFlags := 26, slot := 3, constantValue := 0 }, { name := "CASE_INSENSITIVE_ORDER", type := (.object "java/util/Comparator"), accessFlags := 25, slot := 4, constantValue := 0 }, { name := "LATIN1", type := .byte, accessFlags := 24, slot := 5, constantValue := 0 }, { name := "UTF16", type := .byte, accessFlags := 24, slot := 6, constantValue := 0 }]
  methods := #[k9m0, k9m1, k9m2, k9m3]
  instanceTypes := #[(.array .byte), .byte, .int, .boolean]
  staticTypes := #[.long, .boolean, (.array (.object "java/io/ObjectStreamField")), .char, (.object "java/util/Comparator"), .byte, .byte]
  resolved := Array.replicate 1451 none
  statics := some 1 }

def pool10 : Array CpInfo := pool [(6, .class_ 8), (1, u "java/lang/Object"), (0, u "<init>"), (0, u "()V"), (1, .class_ 14), (1, u "java/lang/StringUTF16"), (31, u "$assertionsDisabled"), (0, u "Z"), (13, u "HI_BYTE_SHIFT"), (0, u "I"), (2, u "LO_BYTE_SHIFT"), (49, .methodref 12 116), (0, .nameAndType 117 118), (0, u "compress"), (0, u "([CI[BII)I"), (3, u "([CII)[B"), (138, u "coderFromArrayLen"), (0, u "([BI)B"), (106, .class_ 371), (1, u "java/lang/StringUTF16$LinesSpliterator"), (58, u "MAX_LENGTH"), (196, .class_ 628), (0, u "java/lang/StringUTF16$CodePointsSpliterator"), (0, .class_ 630), (0, u "java/lang/StringUTF16$CharsSpliterator")] 4

def k10m0 : Method := { name := "<init>", desc := "()V", sig := { parameters := [], returnType := none }, accessFlags := 0, code := none }
def k10c1 : Code := { maxStack := 2, maxLocals := 2, code := jdk_52_method_15_code, exceptionTable := #[], attributes := #[] }
def k10m1 : Method := { name := "coderFromArrayLen", desc := "([BI)B", sig := { parameters := [(.array .byte), .int], returnType := some .byte }, accessFlags := 8, code := some k10c1 }
def k10c2 : Code := { maxStack := 5, maxLocals := 6, code := jdk_52_method_16_code, exceptionTable := #[], attributes := #[] }
def k10m2 : Method := { name := "compress", desc := "([CII)[B", sig := { parameters := [(.array .char), .int, .int], returnType := some (.array .byte) }, accessFlags := 9, code := some k10c2 }
def k10c3 : Code := { maxStack := 3, maxLocals := 7, code := jdk_52_method_21_code, exceptionTable := #[], attributes := #[] }
def k10m3 : Method := { name := "compress", desc := "([CI[BII)I", sig := { parameters := [(.array .char), .int, (.array .byte), .int, .int], returnType := some .int }, accessFlags := 9, code := some k10c3 }
/-- java/lang/StringUTF16 -/
def k10 : Class := { plain "java/lang/StringUTF16" (some 0) with
  accessFlags := 48
  interfaces := #[]
  cf := some (fileOf pool10 12 #[.nestMembers #[627, 629, 369]] #[{ accessFlags := 0, nameIndex := 9, descriptorIndex := 10, attributes := #[] }, { accessFlags := 8, nameIndex := 261, descriptorIndex := 262, attributes := #[] }, { accessFlags := 9, nameIndex := 117, descriptorIndex := 122, attributes := #[] }, { accessFlags := 9, nameIndex := 117, descriptorIndex := 118, attributes := #[] }] 48 6 #[] #[{ accessFlags := 26, nameIndex := 61, descriptorIndex := 62, attributes := #[] }, { accessFlags := 26, nameIndex := 65, descriptorIndex := 62, attributes := #[] }, { accessFlags := 24, nameIndex := 430, descriptorIndex := 62, attributes := #[] }, { accessFlags := 4120, nameIndex := 46, descriptorIndex := 47, attributes := #[] }])
  fields := #[{ name := "HI_BYTE_SHIFT", type := .int, accessFlags := 26, slot := 0, constantValue := 0 }, { name := "LO_BYTE_SHIFT", type := .int, accessFlags := 26, slot := 1, constantValue := 0 }, { name := "MAX_LENGTH", type := .int, accessFlags := 24, slot := 2, constantValue := 0 }, { name := "$assertionsDisabled", type := .boolean, accessFlags := 4120, slot := 3, constantValue := 0 }]
  methods := #[k10m0, k10m1, k10m2, k10m3]
  instanceTypes := #[]
  staticTypes := #[.int, .int, .int, .boolean]
  resolved := Array.replicate 635 none
  statics := none }

def pool11 : Array CpInfo := pool [(1, .class_ 2), (0, u "java/lang/Cloneable"), (0, .class_ 4), (0, u "java/lang/Object")] 2

/-- java/lang/Cloneable -/
def k11 : Class := { plain "java/lang/Cloneable" (some 0) with
  accessFlags := 1537
  interfaces := #[]
  cf := some (fileOf pool11 1 #[] #[] 1537 3 #[] #[])
  fields := #[]
  methods := #[]
  instanceTypes := #[]
  staticTypes := #[]
  resolved := Array.replicate 7 none
  statics := none }

def pool12 : Array CpInfo := pool [(4, .class_ 6), (1, u "java/lang/Object"), (0, u "<init>"), (0, u "()V"), (5, .class_ 16), (1, u "java/lang/StringLatin1"), (104, u "$assertionsDisabled"), (0, u "Z"), (98, .class_ 223), (1, u "java/lang/StringLatin1$LinesSpliterator"), (57, u "equals"), (0, u "([B[B)Z"), (107, .class_ 391), (0, u "java/lang/StringLatin1$CharsSpliterator")] 3

def k12m0 : Method := { name := "<init>", desc := "()V", sig := { parameters := [], returnType := none }, accessFlags := 0, code := none }
def k12c1 : Code := { maxStack := 3, maxLocals := 3, code := jdk_43_method_13_code, exceptionTable := #[], attributes := #[] }
def k12m1 : Method := { name := "equals", desc := "([B[B)Z", sig := { parameters := [(.array .byte), (.array .byte)], returnType := some .boolean }, accessFlags := 9, code := some k12c1 }
/-- java/lang/StringLatin1 -/
def k12 : Class := { plain "java/lang/StringLatin1" (some 0) with
  accessFlags := 48
  interfaces := #[]
  cf := some (fileOf pool12 14 #[.nestMembers #[390, 221]] #[{ accessFlags := 0, nameIndex := 7, descriptorIndex := 8, attributes := #[] }, { accessFlags := 9, nameIndex := 281, descriptorIndex := 282, attributes := #[] }] 48 4 #[] #[{ accessFlags := 4120, nameIndex := 121, descriptorIndex := 122, attributes := #[] }])
  fields := #[{ name := "$assertionsDisabled", type := .boolean, accessFlags := 4120, slot := 0, constantValue := 0 }]
  methods := #[k12m0, k12m1]
  instanceTypes := #[]
  staticTypes := #[.boolean]
  resolved := Array.replicate 395 none
  statics := none }

def pool13 : Array CpInfo := pool [(2, .class_ 4), (1, u "java/lang/Object"), (0, u "<init>"), (0, u "()V"), (17, .class_ 26), (1, u "jdk/internal/util/Preconditions"), (28, .class_ 56), (0, u "jdk/internal/util/Preconditions$4"), (57, .class_ 115), (0, u "jdk/internal/util/Preconditions$1"), (7, u "SIOOBE_FORMATTER"), (0, u "Ljava/util/function/BiFunction;"), (0, .class_ 126), (0, u "jdk/internal/util/Preconditions$2"), (3, u "AIOOBE_FORMATTER"), (0, .class_ 132), (0, u "jdk/internal/util/Preconditions$3"), (3, u "IOOBE_FORMATTER")] 57

def k13m0 : Method := { name := "<init>", desc := "()V", sig := { parameters := [], returnType := none }, accessFlags := 1, code := none }
/-- jdk/internal/util/Preconditions -/
def k13 : Class := { plain "jdk/internal/util/Preconditions" (some 0) with
  accessFlags := 33
  interfaces := #[]
  cf := some (fileOf pool13 24 #[.nestMembers #[55, 131, 125, 114]] #[{ accessFlags := 1, nameIndex := 5, descriptorIndex := 6, attributes := #[] }] 33 2 #[] #[{ accessFlags := 25, nameIndex := 123, descriptorIndex := 124, attributes := #[] }, { accessFlags := 25, nameIndex := 130, descriptorIndex := 124, attributes := #[] }, { accessFlags := 25, nameIndex := 136, descriptorIndex := 124, attributes := #[] }])
  fields := #[{ name := "SIOOBE_FORMATTER", type := (.object "java/util/function/BiFunction"), accessFlags := 25, slot := 0, constantValue := 0 }, { name := "AIOOBE_FORMATTER", type := (.object "java/util/function/BiFunction"), accessFlags := 25, slot := 1, constantValue := 0 }, { name := "IOOBE_FORMATTER", type := (.object "java/util/function/BiFunction"), accessFlags := 25, slot := 2, constantValue := 0 }]
  methods := #[k13m0]
  instanceTypes := #[]
  staticTypes := #[(.object "java/util/function/BiFunction"), (.object "java/util/function/BiFunction"), (.object "java/util/function/BiFunction")]
  resolved := Array.replicate 194 none
  statics := some 2 }

def pool14 : Array CpInfo := pool [(9, u "<init>"), (6, .class_ 18), (1, u "java/lang/Object"), (0, u "()V"), (1, .class_ 23), (1, u "jdk/internal/util/ArraysSupport"), (0, u "LOG2_ARRAY_LONG_INDEX_SCALE"), (0, u "I"), (2, u "U"), (0, u "Ljdk/internal/misc/Unsafe;"), (8, u "BIG_ENDIAN"), (0, u "Z"), (8, u "LOG2_BYTE_BIT_SIZE"), (4, u "LOG2_ARRAY_INT_INDEX_SCALE"), (54, u "JLA"), (0, u "Ljdk/internal/access/JavaLangAccess;"), (11, u "LOG2_ARRAY_BOOLEAN_INDEX_SCALE"), (9, u "LOG2_ARRAY_BYTE_INDEX_SCALE"), (5, u "LOG2_ARRAY_CHAR_INDEX_SCALE"), (5, u "LOG2_ARRAY_SHORT_INDEX_SCALE"), (18, u "LOG2_ARRAY_FLOAT_INDEX_SCALE"), (24, u "LOG2_ARRAY_DOUBLE_INDEX_SCALE"), (89, u "T_BOOLEAN"), (2, u "T_CHAR"), (1, u "T_FLOAT"), (1, u "T_DOUBLE"), (1, u "T_BYTE"), (1, u "T_SHORT"), (1, u "T_INT"), (1, u "T_LONG"), (1, u "SOFT_MAX_ARRAY_LENGTH")] 83

def k14m0 : Method := { name := "<init>", desc := "()V", sig := { parameters := [], returnType := none }, accessFlags := 2, code := none }
/-- jdk/internal/util/ArraysSupport -/
def k14 : Class := { plain "jdk/internal/util/ArraysSupport" (some 0) with
  accessFlags := 33
  interfaces := #[]
  cf := some (fileOf pool14 21 #[] #[{ accessFlags := 2, nameIndex := 9, descriptorIndex := 19, attributes := #[] }] 33 16 #[] #[{ accessFlags := 24, nameIndex := 28, descriptorIndex := 29, attributes := #[] }, { accessFlags := 26, nameIndex := 38, descriptorIndex := 39, attributes := #[] }, { accessFlags := 25, nameIndex := 121, descriptorIndex := 25, attributes := #[] }, { accessFlags := 25, nameIndex := 131, descriptorIndex := 25, attributes := #[] }, { accessFlags := 25, nameIndex := 137, descriptorIndex := 25, attributes := #[] }, { accessFlags := 25, nameIndex := 143, descriptorIndex := 25, attributes := #[] }, { accessFlags := 25, nameIndex := 53, descriptorIndex := 25, attributes := #[] }, { accessFlags := 25, nameIndex := 24, descriptorIndex := 25, attributes := #[] }, { accessFlags := 25, nameIndex := 162, descriptorIndex := 25, attributes := #[] }, { accessFlags := 25, nameIndex := 187, descriptorIndex := 25, attributes := #[] }, { accessFlags := 26, nameIndex := 48, descriptorIndex := 25, attributes := #[] }, { accessFlags := 25, nameIndex := 277, descriptorIndex := 25, attributes := #[] }, { accessFlags := 25, nameIndex := 280, descriptorIndex := 25, attributes := #[] }, { accessFlags := 25, nameIndex := 282, descriptorIndex := 25, attributes := #[] }, { accessFlags := 25, nameIndex := 284, descriptorIndex := 25, attributes := #[] }, { accessFlags := 25, nameIndex := 286, descriptorIndex := 25, attributes := #[] }, { accessFlags := 25, nameIndex := 288, descriptorIndex := 25, attributes := #[] }, { accessFlags := 25, nameIndex := 290, descriptorIndex := 25, attributes := #[] }, { accessFlags := 25, nameIndex := 292, descriptorIndex := 25, attributes := #[] }, { accessFlags := 26, nameIndex := 108, descriptorIndex := 109, attributes := #[] }, { accessFlags := 25, nameIndex := 294, descriptorIndex := 25, attributes := #[] }])
  fields := #[{ name := "U", type := (.object "jdk/internal/misc/Unsafe"), accessFlags := 24, slot := 0, constantValue := 0 }, { name := "BIG_ENDIAN", type := .boolean, accessFlags := 26, slot := 1, constantValue := 0 }, { name := "LOG2_ARRAY_BOOLEAN_INDEX_SCALE", type := .int, accessFlags := 25, slot := 2, constantValue := 0 }, { name := "LOG2_ARRAY_BYTE_INDEX_SCALE", type := .int, accessFlags := 25, slot := 3, constantValue := 0 }, { name := "LOG2_ARRAY_CHAR_INDEX_SCALE", type := .int, accessFlags := 25, slot := 4, constantValue := 0 }, { name := "LOG2_ARRAY_SHORT_INDEX_SCALE", type := .int, accessFlags := 25, slot := 5, constantValue := 0 }, { name := "LOG2_ARRAY_INT_INDEX_SCALE", type := .int, accessFlags := 25, slot := 6, constantValue := 0 }, { name := "LOG2_ARRAY_LONG_INDEX_SCALE", type := .int, accessFlags := 25, slot := 7, constantValue := 0 }, { name := "LOG2_ARRAY_FLOAT_INDEX_SCALE", type := .int, accessFlags := 25, slot := 8, constantValue := 0 }, { name := "LOG2_ARRAY_DOUBLE_INDEX_SCALE", type := .int, accessFlags := 25, slot := 9, constantValue := 0 }, { name := "LOG2_BYTE_BIT_SIZE", type := .int, accessFlags := 26, slot := 10, constantValue := 0 }, { name := "T_BOOLEAN", type := .int, accessFlags := 25, slot := 11, constantValue := 0 }, { name := "T_CHAR", type := .int, accessFlags := 25, slot := 12, constantValue := 0 }, { name := "T_FLOAT", type := .int, accessFlags := 25, slot := 13, constantValue := 0 }, { name := "T_DOUBLE", type := .int, accessFlags := 25, slot := 14, constantValue := 0 }, { name := "T_BYTE", type := .int, accessFlags := 25, slot := 15, constantValue := 0 }, { name := "T_SHORT", type := .int, accessFlags := 25, slot := 16, constantValue := 0 }, { name := "T_INT", type := .int, accessFlags := 25, slot := 17, constantValue := 0 }, { name := "T_LONG", type := .int, accessFlags := 25, slot := 18, constantValue := 0 }, { name := "JLA", type := (.object "jdk/internal/access/JavaLangAccess"), accessFlags := 26, slot := 19, constantValue := 0 }, { name := "SOFT_MAX_ARRAY_LENGTH", type := .int, accessFlags := 25, slot := 20, constantValue := 0 }]
  methods := #[k14m0]
  instanceTypes := #[]
  staticTypes := #[(.object "jdk/internal/misc/Unsafe"), .boolean, .int, .int, .int, .int, .int, .int, .int, .int, .int, .int, .int, .int, .int, .int, .int, .int, .int, (.object "jdk/internal/access/JavaLangAccess"), .int]
  resolved := Array.replicate 378 none
  statics := none }

/-- the primitive byte -/
def k15 : Class := { plain "byte" none with kind := .primitive 'B', accessFlags := 0x411 }
/-- [B -/
def k16 : Class := { plain "[B" (some 0) with kind := .array 15 .byte, interfaces := #[11, 4], accessFlags := 1041 }

/-- the primitive char -/
def k17 : Class := { plain "char" none with kind := .primitive 'C', accessFlags := 0x411 }
/-- [C -/
def k18 : Class := { plain "[C" (some 0) with kind := .array 17 .char, interfaces := #[11, 4], accessFlags := 1041 }

/-- the primitive int -/
def k19 : Class := { plain "int" none with kind := .primitive 'I', accessFlags := 0x411 }
/-- [I -/
def k20 : Class := { plain "[I" (some 0) with kind := .array 19 .int, interfaces := #[11, 4], accessFlags := 1041 }

/-- [Lcom/example/tessera/tessera/device/Role; -/
def k21 : Class := { plain "[Lcom/example/tessera/tessera/device/Role;" (some 0) with kind := .array 6 (.object "com/example/tessera/tessera/device/Role"), interfaces := #[11, 4], accessFlags := 1041 }

def heap : Heap := #[{ cls := 6, slots := #[.ref 4, .ref 5, .ref 6, .ref 3], vm := .statics 6 },
  { cls := 9, slots := #[.long 0, .int 1, .null, .int 0, .null, .int 0, .int 0], vm := .statics 9 },
  { cls := 13, slots := #[.null, .null, .null], vm := .statics 13 },
  { cls := 21, slots := #[.ref 4, .ref 5, .ref 6], vm := .none },
  { cls := 6, slots := #[.null, .int 0, .int 0, .ref 7], vm := .none },
  { cls := 6, slots := #[.null, .int 1, .int 0, .ref 8], vm := .none },
  { cls := 6, slots := #[.null, .int 2, .int 0, .ref 9], vm := .none },
  { cls := 9, slots := #[.ref 10, .int 0, .int 0, .int 0], vm := .none },
  { cls := 9, slots := #[.ref 11, .int 0, .int 0, .int 0], vm := .none },
  { cls := 9, slots := #[.ref 12, .int 0, .int 0, .int 0], vm := .none },
  { cls := 16, slots := #[.int 99, .int 108, .int 105, .int 101, .int 110, .int 116], vm := .none },
  { cls := 16, slots := #[.int 114, .int 115], vm := .none },
  { cls := 16, slots := #[.int 97, .int 100, .int 109, .int 105, .int 110], vm := .none }]
def classes : Array Class := #[k0, k1, k2, k3, k4, k5, k6, k7, k8, k9, k10, k11, k12, k13, k14, k15, k16, k17, k18, k19, k20, k21]
def interned : List (Array UInt16 × Addr) := []
def slotsUsed : Nat := 54
def theMethod : MethodId := ⟨1, 1⟩
def args0 : Array Value := #[.int 5]
def aboutOver (below : List Frame) : State where
  vm := { classes := classes, interned := interned.toArray }
  heap := heap
  slotsUsed := slotsUsed
  threads := #[{ frames := .invoking theMethod args0 :: below }]
def below0 : List Frame := [.native { method := ⟨0, 0⟩, args := #[] }]
def about1 : State := aboutOver below0
def p0 : Program := .bare "" "" ""
def e0 : Env := launch0.env 0 0 0
theorem w_frames : about1.frames = Frame.invoking theMethod args0 :: below0 := rfl
set_option maxRecDepth 65536 in
theorem w_args : argsFit about1.vm theMethod args0 = true := by decide +kernel
set_option maxRecDepth 65536 in
theorem w_heap : heapFits about1 = true := by decide +kernel
set_option maxRecDepth 65536 in
theorem w_runnable : about1.curStatus? = some .runnable := by decide +kernel
set_option maxRecDepth 65536 in
theorem w_alone : about1.alone = true := by decide +kernel
set_option maxRecDepth 65536 in
theorem w_named : about1.methodNamed? x = some theMethod := by decide +kernel
set_option maxRecDepth 65536 in
theorem w_hears : about1.hears theMethod below0 = true := by decide +kernel
set_option maxRecDepth 65536 in
theorem w_ripe : about1.ripe theMethod args0 below0 = true := by decide +kernel
theorem w_running : about1.status = .running := rfl
set_option maxRecDepth 65536 in
theorem w_room : about1.hasRoom e0.platform room_1 = true :=
  launch0.hasRoom_least _ room_1 (by decide +kernel) (by decide +kernel) (by decide +kernel) (by decide +kernel) (by decide +kernel) (by decide +kernel)
theorem allAtoms_all (ts : List Jvm.Cond) (a : Array Jvm.Value) (st : Jvm.State) : (allAtoms ts).before a st = ts.all (fun c => c.before a st) := by
  induction ts with
  | nil => rfl
  | cons c t ih =>
    show (Jvm.Cond.and c (allAtoms t)).before a st = _
    rw [Jvm.Cond.before_and, ih, List.all_cons]
def words1 : List Jvm.Cond := Jvm.Cond.code x code maxLocals ret :: tables_1
/-- a 'code' word, met by the world's own term for the bytes: nothing is compared byte by byte -/
theorem code_word {y : MethodName} {bytes : ByteArray} {mx : Nat} {rt : Option FieldType} {a : Array Value} {s : State} {m : MethodId} {meth : Method} {c : Code} (h1 : s.methodNamed? y = some m) (h2 : s.vm.method? m = some meth) (h3 : meth.code = some c) (h4 : c.code = bytes)
    (h5 : (c.maxLocals == mx && c.exceptionTable.isEmpty && decide (c.maxStack ≤ mostOperands) && decide (meth.sig.returnType = rt) && !meth.locks && decide (parseMethodDescriptor y.desc = some meth.sig)) = true) : (Jvm.Cond.code y bytes mx rt).before a s = true := by
  simp only [Bool.and_eq_true, beq_iff_eq, Bool.not_eq_true', decide_eq_true_eq] at h5
  obtain ⟨⟨⟨⟨⟨g1, g2⟩, g3⟩, g4⟩, g5⟩, g6⟩ := h5
  simp [Cond.before, Cond.holds, Cond.value, h1, h2, h3, h4, g1, g2, g3, g4, g5, g6]
def isCode : Jvm.Cond → Bool
  | .code _ _ _ _ => true
  | _ => false
theorem all_split {L : List Jvm.Cond} {P : Jvm.Cond → Bool} (h1 : L.all (fun c => isCode c || P c) = true) (h2 : ∀ c ∈ L.filter isCode, P c = true) : L.all P = true := by
  refine List.all_eq_true.mpr fun c hc => ?_
  have h := List.all_eq_true.mp h1 c hc
  rcases Bool.eq_false_or_eq_true (isCode c) with hi | hi
  · exact h2 c (List.mem_filter.mpr ⟨hc, hi⟩)
  · simpa [hi] using h
set_option maxRecDepth 65536 in
theorem w_c0 : (Jvm.Cond.code x code maxLocals ret).before args0 about1 = true := code_word (m := ⟨1, 1⟩) (meth := k1m1) (c := k1c1) (by decide +kernel) rfl rfl rfl (by decide +kernel)
set_option maxRecDepth 65536 in
theorem w_c1 : (Jvm.Cond.code ({ cls := "java/lang/String", name := "<init>", desc := "([C)V" } : Jvm.MethodName) jdk_42_method_3_code (2 : Nat) (Option.none : Option Jvm.ClassFile.FieldType)).before args0 about1 = true := code_word (m := ⟨9, 1⟩) (meth := k9m1) (c := k9c1) (by decide +kernel) rfl rfl rfl (by decide +kernel)
set_option maxRecDepth 65536 in
theorem w_c2 : (Jvm.Cond.code ({ cls := "java/lang/String", name := "<init>", desc := "([CIILjava/lang/Void;)V" } : Jvm.MethodName) jdk_42_method_149_code (6 : Nat) (Option.none : Option Jvm.ClassFile.FieldType)).before args0 about1 = true := code_word (m := ⟨9, 3⟩) (meth := k9m3) (c := k9c3) (by decide +kernel) rfl rfl rfl (by decide +kernel)
set_option maxRecDepth 65536 in
theorem w_c3 : (Jvm.Cond.code ({ cls := "java/lang/Object", name := "<init>", desc := "()V" } : Jvm.MethodName) object_method_1_code (1 : Nat) (Option.none : Option Jvm.ClassFile.FieldType)).before args0 about1 = true := code_word (m := ⟨0, 0⟩) (meth := k0m0) (c := k0c0) (by decide +kernel) rfl rfl rfl (by decide +kernel)
set_option maxRecDepth 65536 in
theorem w_c4 : (Jvm.Cond.code ({ cls := "java/lang/StringUTF16", name := "compress", desc := "([CII)[B" } : Jvm.MethodName) jdk_52_method_16_code (6 : Nat) (Option.some (Jvm.ClassFile.FieldType.array Jvm.ClassFile.FieldType.byte))).before args0 about1 = true := code_word (m := ⟨10, 2⟩) (meth := k10m2) (c := k10c2) (by decide +kernel) rfl rfl rfl (by decide +kernel)
set_option maxRecDepth 65536 in
theorem w_c5 : (Jvm.Cond.code ({ cls := "java/lang/StringUTF16", name := "compress", desc := "([CI[BII)I" } : Jvm.MethodName) jdk_52_method_21_code (7 : Nat) (Option.some Jvm.ClassFile.FieldType.int)).before args0 about1 = true := code_word (m := ⟨10, 3⟩) (meth := k10m3) (c := k10c3) (by decide +kernel) rfl rfl rfl (by decide +kernel)
set_option maxRecDepth 65536 in
theorem w_c6 : (Jvm.Cond.code ({ cls := "java/lang/StringUTF16", name := "coderFromArrayLen", desc := "([BI)B" } : Jvm.MethodName) jdk_52_method_15_code (2 : Nat) (Option.some Jvm.ClassFile.FieldType.byte)).before args0 about1 = true := code_word (m := ⟨10, 1⟩) (meth := k10m1) (c := k10c1) (by decide +kernel) rfl rfl rfl (by decide +kernel)
set_option maxRecDepth 65536 in
theorem w_c7 : (Jvm.Cond.code ({ cls := "com/example/tessera/tessera/device/Role", name := "named", desc := "(Ljava/lang/String;)Lcom/example/tessera/tessera/device/Role;" } : Jvm.MethodName) prog_4_method_5_code (5 : Nat) (Option.some (Jvm.ClassFile.FieldType.object "com/example/tessera/tessera/device/Role"))).before args0 about1 = true := code_word (m := ⟨6, 2⟩) (meth := k6m2) (c := k6c2) (by decide +kernel) rfl rfl rfl (by decide +kernel)
set_option maxRecDepth 65536 in
theorem w_c8 : (Jvm.Cond.code ({ cls := "com/example/tessera/tessera/device/Role", name := "values", desc := "()[Lcom/example/tessera/tessera/device/Role;" } : Jvm.MethodName) prog_4_method_1_code (0 : Nat) (Option.some (Jvm.ClassFile.FieldType.array (Jvm.ClassFile.FieldType.object "com/example/tessera/tessera/device/Role")))).before args0 about1 = true := code_word (m := ⟨6, 0⟩) (meth := k6m0) (c := k6c0) (by decide +kernel) rfl rfl rfl (by decide +kernel)
set_option maxRecDepth 65536 in
theorem w_c9 : (Jvm.Cond.code ({ cls := "java/lang/String", name := "equals", desc := "(Ljava/lang/Object;)Z" } : Jvm.MethodName) jdk_42_method_66_code (3 : Nat) (Option.some Jvm.ClassFile.FieldType.boolean)).before args0 about1 = true := code_word (m := ⟨9, 2⟩) (meth := k9m2) (c := k9c2) (by decide +kernel) rfl rfl rfl (by decide +kernel)
set_option maxRecDepth 65536 in
theorem w_c10 : (Jvm.Cond.code ({ cls := "java/lang/StringLatin1", name := "equals", desc := "([B[B)Z" } : Jvm.MethodName) jdk_43_method_13_code (3 : Nat) (Option.some Jvm.ClassFile.FieldType.boolean)).before args0 about1 = true := code_word (m := ⟨12, 1⟩) (meth := k12m1) (c := k12c1) (by decide +kernel) rfl rfl rfl (by decide +kernel)
set_option maxRecDepth 65536 in
theorem w_c11 : (Jvm.Cond.code ({ cls := "com/example/tessera/tessera/device/Role", name := "getName", desc := "()Ljava/lang/String;" } : Jvm.MethodName) prog_4_method_4_code (1 : Nat) (Option.some (Jvm.ClassFile.FieldType.object "java/lang/String"))).before args0 about1 = true := code_word (m := ⟨6, 1⟩) (meth := k6m1) (c := k6c1) (by decide +kernel) rfl rfl rfl (by decide +kernel)
def codes1 : List Jvm.Cond := [Jvm.Cond.code x code maxLocals ret, Jvm.Cond.code ({ cls := "java/lang/String", name := "<init>", desc := "([C)V" } : Jvm.MethodName) jdk_42_method_3_code (2 : Nat) (Option.none : Option Jvm.ClassFile.FieldType), Jvm.Cond.code ({ cls := "java/lang/String", name := "<init>", desc := "([CIILjava/lang/Void;)V" } : Jvm.MethodName) jdk_42_method_149_code (6 : Nat) (Option.none : Option Jvm.ClassFile.FieldType), Jvm.Cond.code ({ cls := "java/lang/Object", name := "<init>", desc := "()V" } : Jvm.MethodName) object_method_1_code (1 : Nat) (Option.none : Option Jvm.ClassFile.FieldType), Jvm.Cond.code ({ cls := "java/lang/StringUTF16", name := "compress", desc := "([CII)[B" } : Jvm.MethodName) jdk_52_method_16_code (6 : Nat) (Option.some (Jvm.ClassFile.FieldType.array Jvm.ClassFile.FieldType.byte)), Jvm.Cond.code ({ cls := "java/lang/StringUTF16", name := "compress", desc := "([CI[BII)I" } : Jvm.MethodName) jdk_52_method_21_code (7 : Nat) (Option.some Jvm.ClassFile.FieldType.int), Jvm.Cond.code ({ cls := "java/lang/StringUTF16", name := "coderFromArrayLen", desc := "([BI)B" } : Jvm.MethodName) jdk_52_method_15_code (2 : Nat) (Option.some Jvm.ClassFile.FieldType.byte), Jvm.Cond.code ({ cls := "com/example/tessera/tessera/device/Role", name := "named", desc := "(Ljava/lang/String;)Lcom/example/tessera/tessera/device/Role;" } : Jvm.MethodName) prog_4_method_5_code (5 : Nat) (Option.some (Jvm.ClassFile.FieldType.object "com/example/tessera/tessera/device/Role")), Jvm.Cond.code ({ cls := "com/example/tessera/tessera/device/Role", name := "values", desc := "()[Lcom/example/tessera/tessera/device/Role;" } : Jvm.MethodName) prog_4_method_1_code (0 : Nat) (Option.some (Jvm.ClassFile.FieldType.array (Jvm.ClassFile.FieldType.object "com/example/tessera/tessera/device/Role"))), Jvm.Cond.code ({ cls := "java/lang/String", name := "equals", desc := "(Ljava/lang/Object;)Z" } : Jvm.MethodName) jdk_42_method_66_code (3 : Nat) (Option.some Jvm.ClassFile.FieldType.boolean), Jvm.Cond.code ({ cls := "java/lang/StringLatin1", name := "equals", desc := "([B[B)Z" } : Jvm.MethodName) jdk_43_method_13_code (3 : Nat) (Option.some Jvm.ClassFile.FieldType.boolean), Jvm.Cond.code ({ cls := "com/example/tessera/tessera/device/Role", name := "getName", desc := "()Ljava/lang/String;" } : Jvm.MethodName) prog_4_method_4_code (1 : Nat) (Option.some (Jvm.ClassFile.FieldType.object "java/lang/String"))]
set_option maxRecDepth 65536 in
theorem codes_eq : words1.filter isCode = codes1 := rfl
theorem w_codes : ∀ c ∈ words1.filter isCode, c.before args0 about1 = true := by
  rw [codes_eq]
  intro c hc
  simp only [codes1, List.mem_cons, List.not_mem_nil, or_false] at hc
  rcases hc with rfl | rfl | rfl | rfl | rfl | rfl | rfl | rfl | rfl | rfl | rfl | rfl
  · exact w_c0
  · exact w_c1
  · exact w_c2
  · exact w_c3
  · exact w_c4
  · exact w_c5
  · exact w_c6
  · exact w_c7
  · exact w_c8
  · exact w_c9
  · exact w_c10
  · exact w_c11
set_option maxRecDepth 65536 in
theorem w_t1 : (words1.take 24).all (fun c => isCode c || c.before args0 about1) = true := by decide +kernel
set_option maxRecDepth 65536 in
theorem w_t2 : ((words1.drop 24).take 24).all (fun c => isCode c || c.before args0 about1) = true := by decide +kernel
set_option maxRecDepth 65536 in
theorem w_t3 : (((words1.drop 24).drop 24).take 24).all (fun c => isCode c || c.before args0 about1) = true := by decide +kernel
set_option maxRecDepth 65536 in
theorem w_t4 : (((words1.drop 24).drop 24).drop 24).all (fun c => isCode c || c.before args0 about1) = true := by decide +kernel
theorem w_tables : (allAtoms (Jvm.Cond.code x code maxLocals ret :: tables_1)).before args0 about1 = true := by
  rw [allAtoms_all]
  show words1.all (fun c => c.before args0 about1) = true
  refine all_split ?_ w_codes
  rw [← List.take_append_drop 24 words1, List.all_append, w_t1, ← List.take_append_drop 24 (words1.drop 24), List.all_append, w_t2, ← List.take_append_drop 24 ((words1.drop 24).drop 24), List.all_append, w_t3, w_t4]
  rfl
set_option maxRecDepth 65536 in
theorem w_rest : rest_1_c.before args0 about1 = true := by decide +kernel
set_option maxRecDepth 65536 in
theorem w_case : (Jvm.Cond.and given_1 narrow_1).before args0 about1 = true := by decide +kernel
theorem w_applies : (headSpec (Jvm.Cond.code x code maxLocals ret :: tables_1) room_1).applies x e0.platform about1 = true :=
  (Spec.applies_iff w_frames).mpr ⟨w_running, w_runnable, w_alone, w_named, w_hears, w_ripe, w_room, w_tables⟩
theorem atStart : AtStart classFile x code maxLocals ret World_1 tables_1 room_1 Calls_1 rest_1 Pre_1 launch0 p0 e0 about1 theMethod args0 below0 :=
  ⟨lists_1, trivial, launch0.admits_env _ _ _, launch0.least_env, fairChoices_fair.cas, fairChoices_fair.clock, w_frames, w_args, w_heap, w_applies, trivial, w_rest, w_case⟩
end start1
theorem witness_1 : WitnessClaimed_1 := ⟨start1.p0, start1.e0, start1.about1, start1.theMethod, start1.args0, start1.below0, start1.atStart⟩
end Jvm.Pilot.@@N@@
