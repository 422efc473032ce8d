import JvmDerived
import JvmDerived.Pilot.@@N@@Statement
import JvmDerived.Pilot.@@N@@Code
set_option linter.unusedVariables false
set_option linter.unusedSimpArgs false
/- laws to paste: Road.backV (cut by pick.py; bodies as the Statement names them) -/
namespace Jvm.Pilot.@@N@@
namespace StrChars
open Jvm Sem ClassFile Op Lib Jvm.Stand Jvm.Free.XT Jvm.Free.ALB Jvm.Free.JM Jvm.Free
open Jvm.Lib.Cold (StaticIs)
/-- a char array whose places are chars -/
def Ch (a : Addr) (A : Cell) (U : State) : Prop := Arr .char a A U ∧ Typed .char A
theorem Ch.mv {a : Addr} {A : Cell} {U U' : State} (h : Ch a A U) (hal : U.vm.Alike U'.vm) (hh : U'.heap = U.heap) : Ch a A U' := ⟨h.1.mv hal hh, h.2⟩
theorem Ch.keep {a : Addr} {A : Cell} {U U' : State} (h : Ch a A U) (hal : U.vm.Alike U'.vm) (hk : U'.heap[a]? = some A) : Ch a A U' := ⟨h.1.keep hal hk, h.2⟩
/-- what place i of a char[]'s cell holds -/
def cv (A : Cell) (i : Nat) : Int32 := match A.slots[i]? with | some (.int x) => x | _ => 0
theorem Ch.get {a : Addr} {A : Cell} {U : State} (h : Ch a A U) {i : Nat} (hi : i < A.slots.size) : A.slots[i]? = some (.int (cv A i)) := by
  have e := Array.getElem?_eq_getElem hi
  have f := h.2 i _ e
  unfold cv; rw [e]
  generalize A.slots[i] = v at f
  cases v <;> simp [fits] at f ⊢
/-- the byte that i2b leaves of a char -/
def lo8 (x : Int32) : Int32 := x.toInt8.toInt32
theorem fits_lo8 (y : Int32) : fits .byte (.int (lo8 y)) = true := by
  have h1 := y.toInt8.le_toInt
  have h2 := y.toInt8.toInt_lt
  simp only [lo8, fits, Bool.and_eq_true, decide_eq_true_eq, Int32.le_iff_toInt_le, Int8.toInt_toInt32, show (-128 : Int32).toInt = -128 from by decide, show (127 : Int32).toInt = 127 from by decide]
  omega
/-- A' is A but that each place j of lo .. hi - 1 holds f j -/
def Laid (A A' : Cell) (lo hi : Nat) (f : Nat → Value) : Prop := A'.cls = A.cls ∧ A'.vm = A.vm ∧ A'.slots.size = A.slots.size ∧ ∀ i, A'.slots[i]? = if lo ≤ i ∧ i < hi then some (f i) else A.slots[i]?
theorem Laid.zero (A : Cell) (lo : Nat) (f : Nat → Value) : Laid A A lo (lo + 0) f := ⟨rfl, rfl, rfl, fun i => by rw [if_neg (by omega)]⟩
theorem Laid.step {A Ak : Cell} {lo k : Nat} {f : Nat → Value} {v : Value} (h : Laid A Ak lo k f) (hlo : lo ≤ k) (hk : k < Ak.slots.size) (hv : v = f k) : Laid A (Ak.setSlot k v) lo (k + 1) f := by
  refine ⟨h.1, h.2.1, by simpa [Cell.setSlot] using h.2.2.1, fun i => ?_⟩
  by_cases e : k = i
  · subst e; rw [Cell.slots_setSlot_self v hk, if_pos (by omega), hv]
  · rw [Cell.slots_setSlot_ne v e, h.2.2.2 i]
    by_cases q : lo ≤ i ∧ i < k
    · rw [if_pos q, if_pos (by omega)]
    · rw [if_neg q, if_neg (by omega)]
def U16 : String := "java/lang/StringUTF16"
namespace Cmp5
def yN : MethodName := ⟨"java/lang/StringUTF16", "compress", "([CI[BII)I"⟩
abbrev yB : ByteArray := jdk_52_method_21_code
theorem d0 : decode yB 0 = .ok (.iconst 0, 1) := by decide +kernel
theorem d1 : decode yB 1 = .ok (.istore 5, 2) := by decide +kernel
theorem d3 : decode yB 3 = .ok (.iload 5, 2) := by decide +kernel
theorem d5 : decode yB 5 = .ok (.iload 4, 2) := by decide +kernel
theorem d7 : decode yB 7 = .ok (.if_icmp (.ge) 37, 3) := by decide +kernel
theorem d10 : decode yB 10 = .ok (.aload_n 0, 1) := by decide +kernel
theorem d11 : decode yB 11 = .ok (.iload_n 1, 1) := by decide +kernel
theorem d12 : decode yB 12 = .ok (.caload, 1) := by decide +kernel
theorem d13 : decode yB 13 = .ok (.istore 6, 2) := by decide +kernel
theorem d15 : decode yB 15 = .ok (.iload 6, 2) := by decide +kernel
theorem d17 : decode yB 17 = .ok (.sipush 255, 3) := by decide +kernel
theorem d20 : decode yB 20 = .ok (.if_icmp (.le) 6, 3) := by decide +kernel
theorem d26 : decode yB 26 = .ok (.aload_n 2, 1) := by decide +kernel
theorem d27 : decode yB 27 = .ok (.iload_n 3, 1) := by decide +kernel
theorem d28 : decode yB 28 = .ok (.iload 6, 2) := by decide +kernel
theorem d30 : decode yB 30 = .ok (.i2b, 1) := by decide +kernel
theorem d31 : decode yB 31 = .ok (.bastore, 1) := by decide +kernel
theorem d32 : decode yB 32 = .ok (.iinc 1 1, 3) := by decide +kernel
theorem d35 : decode yB 35 = .ok (.iinc 3 1, 3) := by decide +kernel
theorem d38 : decode yB 38 = .ok (.iinc 5 1, 3) := by decide +kernel
theorem d41 : decode yB 41 = .ok (.goto (-38), 3) := by decide +kernel
theorem d44 : decode yB 44 = .ok (.iload 4, 2) := by decide +kernel
theorem d46 : decode yB 46 = .ok (.ireturn, 1) := by decide +kernel
def site : List Cond := []
def tab : Cond := tabOf yN yB 7 (some .int) site
def P (b : Addr) (A : Cell) (d : Addr) (B : Cell) (o q len : Nat) (args : Array Value) (s : State) : Prop := args = #[.ref b, .int (Int32.ofNat o), .ref d, .int (Int32.ofNat q), .int (Int32.ofNat len)] ∧ Ch b A s ∧ Arr .byte d B s ∧ b ≠ d ∧ o + len ≤ A.slots.size ∧ q + len ≤ B.slots.size ∧ ∀ i, i < len → ¬ 255 < cv A (o + i)
def E (b : Addr) (A : Cell) (d : Addr) (B : Cell) (o q len : Nat) (r : Option Value) (s u : State) : Prop := r = some (.int (Int32.ofNat len)) ∧ ∃ B', Put d B' s u ∧ Laid B B' q (q + len) (fun j => Value.int (lo8 (cv A (o + (j - q)))))
/-- no char of the range above 255: len; the places written hold each char's low byte -/
theorem law (l : Launch) (b : Addr) (A : Cell) (d : Addr) (B : Cell) (o q len : Nat) : Law l yN 5 5 0 0 yB 7 (some .int) site (P b A d B o q len) (E b A d B o q len) (copyLocs d q len) 0 0 := by
  refine Law.of_walk (plainFor_of_name (by decide +kernel)) (by decide +kernel) (by decide +kernel) (by decide) (fun _ _ h => by rw [h.1]; rfl) (fun _ U U' hal hh h => ⟨h.1, h.2.1.mv hal hh, h.2.2.1.mv hal hh, h.2.2.2⟩) (fun r U U' V V' h1 hal h2 h => ⟨h.1, h.2.elim fun B' q => ⟨B', q.1.mv h1 h2, q.2⟩⟩) ?_
  intro p e s m args below meth c s₁ X0 hexec hbytes hml hret hlk hnm hown hh0 W hP
  obtain ⟨rfl, hA, hB, hne, l1, l2, hp⟩ := hP
  have c1 : Steps p.tables e below (s₁.setTop (entryFrame m #[.ref b, .int (Int32.ofNat o), .ref d, .int (Int32.ofNat q), .int (Int32.ofNat len)] 7)) (s₁.setTop (mkF m 0 #[.val (.ref b), .val (.int (Int32.ofNat o)), .val (.ref d), .val (.int (Int32.ofNat q)), .val (.int (Int32.ofNat len)), .unset, .unset] [])) := entry rfl
  have hA0 := hA.1.mv X0.warmed.alike hh0
  have hB0 := hB.mv X0.warmed.alike hh0
  have a31 := hA.1.2.2.2
  have c2 : Steps p.tables e below (s₁.setTop (entryFrame m #[.ref b, .int (Int32.ofNat o), .ref d, .int (Int32.ofNat q), .int (Int32.ofNat len)] 7)) (s₁.setTop (mkF m 3 #[.val (.ref b), .val (.int (Int32.ofNat o)), .val (.ref d), .val (.int (Int32.ofNat q)), .val (.int (Int32.ofNat len)), .val (.int 0), .unset] [])) := c1.trans (by
    refine iconstV X0.here hexec rfl 0 (hb hbytes d0) (by decide) ?_
    refine XS.istore X0.here hexec rfl (hb hbytes d1) rfl rfl ?_
    exact Steps.refl _)
  have loop : ∀ (r i : Nat), i + r = len → ∀ (z : Slot), (z = .unset ∨ ∃ w, z = .val w ∧ w.category = 1) → ∀ (Tl : State) (Bk : Cell), Stand p l e { frames := 0, locals := 0, cells := 0, slots := 0 } s m #[.ref b, .int (Int32.ofNat o), .ref d, .int (Int32.ofNat q), .int (Int32.ofNat len)] below meth c Tl ([] ++ copyLocs d q i) 0 0 → Put d Bk s₁ Tl → Laid B Bk q (q + i) (fun j => Value.int (lo8 (cv A (o + (j - q))))) →
      Steps p.tables e below (s₁.setTop (entryFrame m #[.ref b, .int (Int32.ofNat o), .ref d, .int (Int32.ofNat q), .int (Int32.ofNat len)] 7)) (Tl.setTop (mkF m 3 #[.val (.ref b), .val (.int (Int32.ofNat (o + i))), .val (.ref d), .val (.int (Int32.ofNat (q + i))), .val (.int (Int32.ofNat len)), .val (.int (Int32.ofNat i)), z] [])) → ∃ (T' : State) (B' : Cell) (z' : Slot), Stand p l e { frames := 0, locals := 0, cells := 0, slots := 0 } s m #[.ref b, .int (Int32.ofNat o), .ref d, .int (Int32.ofNat q), .int (Int32.ofNat len)] below meth c T' ([] ++ copyLocs d q len) 0 0 ∧ Put d B' s₁ T' ∧ Laid B B' q (q + len) (fun j => Value.int (lo8 (cv A (o + (j - q))))) ∧
      Steps p.tables e below (s₁.setTop (entryFrame m #[.ref b, .int (Int32.ofNat o), .ref d, .int (Int32.ofNat q), .int (Int32.ofNat len)] 7)) (T'.setTop (mkF m 3 #[.val (.ref b), .val (.int (Int32.ofNat (o + len))), .val (.ref d), .val (.int (Int32.ofNat (q + len))), .val (.int (Int32.ofNat len)), .val (.int (Int32.ofNat len)), z'] [])) := by
    intro r
    induction r with
    | zero =>
      intro i hi z hz Tl Bk Xl pl fl cl
      have hil : i = len := by omega
      rw [hil] at Xl fl cl
      exact ⟨Tl, Bk, z, Xl, pl, fl, cl⟩
    | succ r ih =>
      intro i hi z hz Tl Bk Xl pl fl cl
      have all := X0.warmed.alike.symm.trans Xl.warmed.alike
      have hAl := hA0.keep all (pl.other hne hA0.1)
      have hBk := hB0.like all pl.1 fl.1 fl.2.1 fl.2.2.1
      have hlt : q + i < Bk.slots.size := by rw [fl.2.2.1]; omega
      have c3 : Steps p.tables e below (s₁.setTop (entryFrame m #[.ref b, .int (Int32.ofNat o), .ref d, .int (Int32.ofNat q), .int (Int32.ofNat len)] 7)) (Tl.setTop (mkF m 12 #[.val (.ref b), .val (.int (Int32.ofNat (o + i))), .val (.ref d), .val (.int (Int32.ofNat (q + i))), .val (.int (Int32.ofNat len)), .val (.int (Int32.ofNat i)), z] [.int (Int32.ofNat (o + i)), .ref b])) := cl.trans (by
        refine XS.iload Xl.here hexec rfl (hb hbytes d3) rfl ?_
        refine XS.iload Xl.here hexec rfl (hb hbytes d5) rfl ?_
        refine XS.icmpNo Xl.here hexec rfl (hb hbytes d7) rfl (ii_ge_f (lt32 (by omega) (by omega))) ?_
        refine XS.aloadN Xl.here hexec rfl (hb hbytes d10) rfl rfl ?_
        refine XS.iloadN Xl.here hexec rfl (hb hbytes d11) rfl ?_
        exact Steps.refl _)
      have c4 : Steps p.tables e below (s₁.setTop (entryFrame m #[.ref b, .int (Int32.ofNat o), .ref d, .int (Int32.ofNat q), .int (Int32.ofNat len)] 7)) (Tl.setTop (mkF m 13 #[.val (.ref b), .val (.int (Int32.ofNat (o + i))), .val (.ref d), .val (.int (Int32.ofNat (q + i))), .val (.int (Int32.ofNat len)), .val (.int (Int32.ofNat i)), z] [.int (cv A (o + i))])) := c3.trans (by
        refine Xl.aget hexec hAl rfl (hA.get (i := o + i) (by omega)) rfl rfl (hb hbytes d12) ?_
        exact Steps.refl _)
      have c5 : Steps p.tables e below (s₁.setTop (entryFrame m #[.ref b, .int (Int32.ofNat o), .ref d, .int (Int32.ofNat q), .int (Int32.ofNat len)] 7)) (Tl.setTop (mkF m 15 #[.val (.ref b), .val (.int (Int32.ofNat (o + i))), .val (.ref d), .val (.int (Int32.ofNat (q + i))), .val (.int (Int32.ofNat len)), .val (.int (Int32.ofNat i)), .val (.int (cv A (o + i)))] [])) := c4.trans (by
        refine XS.istoreS Xl.here hexec rfl (hb hbytes d13) rfl rfl hz ?_
        exact Steps.refl _)
      have c6 : Steps p.tables e below (s₁.setTop (entryFrame m #[.ref b, .int (Int32.ofNat o), .ref d, .int (Int32.ofNat q), .int (Int32.ofNat len)] 7)) (Tl.setTop (mkF m 31 #[.val (.ref b), .val (.int (Int32.ofNat (o + i))), .val (.ref d), .val (.int (Int32.ofNat (q + i))), .val (.int (Int32.ofNat len)), .val (.int (Int32.ofNat i)), .val (.int (cv A (o + i)))] [.int (lo8 (cv A (o + i))), .int (Int32.ofNat (q + i)), .ref d])) := c5.trans (by
        refine XS.iload Xl.here hexec rfl (hb hbytes d15) rfl ?_
        refine sipushV Xl.here hexec rfl 255 (hb hbytes d17) (by decide) ?_
        refine XS.icmpYes Xl.here hexec rfl (pc0 := 20) rfl (hb hbytes d20) rfl (ii_le_t (hp i (by omega))) (by decide) rfl ?_
        refine XS.aloadN Xl.here hexec rfl (hb hbytes d26) rfl rfl ?_
        refine XS.iloadN Xl.here hexec rfl (hb hbytes d27) rfl ?_
        refine XS.iload Xl.here hexec rfl (hb hbytes d28) rfl ?_
        refine i2b Xl.here hexec rfl (hb hbytes d30) rfl ?_
        exact Steps.refl _)
      obtain ⟨T7, X7, p7, st7⟩ := Xl.aput hexec hBk rfl hlt rfl (fits_lo8 (cv A (o + i))) (g := (mkF m 31 #[.val (.ref b), .val (.int (Int32.ofNat (o + i))), .val (.ref d), .val (.int (Int32.ofNat (q + i))), .val (.int (Int32.ofNat len)), .val (.int (Int32.ofNat i)), .val (.int (cv A (o + i)))] [.int (lo8 (cv A (o + i))), .int (Int32.ofNat (q + i)), .ref d])) rfl (rest := []) rfl (hb hbytes d31)
      have c8 : Steps p.tables e below (s₁.setTop (entryFrame m #[.ref b, .int (Int32.ofNat o), .ref d, .int (Int32.ofNat q), .int (Int32.ofNat len)] 7)) (T7.setTop (mkF m 32 #[.val (.ref b), .val (.int (Int32.ofNat (o + i))), .val (.ref d), .val (.int (Int32.ofNat (q + i))), .val (.int (Int32.ofNat len)), .val (.int (Int32.ofNat i)), .val (.int (cv A (o + i)))] [])) := c6.trans (st7 _ (Steps.refl _))
      have c9 : Steps p.tables e below (s₁.setTop (entryFrame m #[.ref b, .int (Int32.ofNat o), .ref d, .int (Int32.ofNat q), .int (Int32.ofNat len)] 7)) (T7.setTop (mkF m 3 #[.val (.ref b), .val (.int (Int32.ofNat (o + i) + 1)), .val (.ref d), .val (.int (Int32.ofNat (q + i) + 1)), .val (.int (Int32.ofNat len)), .val (.int (Int32.ofNat i + 1)), .val (.int (cv A (o + i)))] [])) := c8.trans (by
        refine iincV X7.here hexec rfl 1 (hb hbytes d32) (by decide) rfl rfl ?_
        refine iincV X7.here hexec rfl 1 (hb hbytes d35) (by decide) rfl rfl ?_
        refine iincV X7.here hexec rfl 1 (hb hbytes d38) (by decide) rfl rfl ?_
        refine XS.goto X7.here hexec rfl (pc0 := 41) rfl (hb hbytes d41) (by decide) rfl ?_
        exact Steps.refl _)
      have c10 : Steps p.tables e below (s₁.setTop (entryFrame m #[.ref b, .int (Int32.ofNat o), .ref d, .int (Int32.ofNat q), .int (Int32.ofNat len)] 7)) (T7.setTop (mkF m 3 #[.val (.ref b), .val (.int (Int32.ofNat (o + (i + 1)))), .val (.ref d), .val (.int (Int32.ofNat (q + (i + 1)))), .val (.int (Int32.ofNat len)), .val (.int (Int32.ofNat (i + 1))), .val (.int (cv A (o + i)))] [])) := by
        have := c9
        rw [succ32, succ32, succ32] at this
        exact this
      exact ih (i + 1) (by omega) _ (Or.inr ⟨_, rfl, rfl⟩) T7 _ (by rw [copyLocs_step, ← List.append_assoc]; exact X7) (pl.trans p7) (fl.step (by omega) hlt (by simp)) c10
  obtain ⟨T9, B9, z9, X9, p9, f9, g9⟩ := loop len 0 (by omega) .unset (Or.inl rfl) s₁ B (by simpa [copyLocs] using X0) ⟨hB0.1, fun _ _ => rfl, rfl⟩ (Laid.zero _ _ _) c2
  have c11 : Steps p.tables e below (s₁.setTop (entryFrame m #[.ref b, .int (Int32.ofNat o), .ref d, .int (Int32.ofNat q), .int (Int32.ofNat len)] 7)) (T9.setTop (mkF m 46 #[.val (.ref b), .val (.int (Int32.ofNat (o + len))), .val (.ref d), .val (.int (Int32.ofNat (q + len))), .val (.int (Int32.ofNat len)), .val (.int (Int32.ofNat len)), z9] [.int (Int32.ofNat len)])) := g9.trans (by
    refine XS.iload X9.here hexec rfl (hb hbytes d3) rfl ?_
    refine XS.iload X9.here hexec rfl (hb hbytes d5) rfl ?_
    refine XS.icmpYes X9.here hexec rfl (pc0 := 7) rfl (hb hbytes d7) rfl (ii_ge_t (nlt32 (by omega) (Nat.le_refl _))) (by decide) rfl ?_
    refine XS.iload X9.here hexec rfl (hb hbytes d44) rfl ?_
    exact Steps.refl _)
  exact ⟨T9, some (.int (Int32.ofNat len)), _, _, _, X9, by simp, rfl, rfl, (fun h => by cases h), ⟨rfl, B9, p9.from hh0, f9⟩, fun fs hl => c11.trans (X9.ireturnOut hexec hret rfl (Or.inl rfl) (hb hbytes d46) hl)⟩
end Cmp5
namespace Cmp3
def yN : MethodName := ⟨"java/lang/StringUTF16", "compress", "([CII)[B"⟩
abbrev yB : ByteArray := jdk_52_method_16_code
theorem d0 : decode yB 0 = .ok (.iload_n 2, 1) := by decide +kernel
theorem d1 : decode yB 1 = .ok (.newarray .byte, 2) := by decide +kernel
theorem d3 : decode yB 3 = .ok (.astore_n 3, 1) := by decide +kernel
theorem d4 : decode yB 4 = .ok (.aload_n 0, 1) := by decide +kernel
theorem d5 : decode yB 5 = .ok (.iload_n 1, 1) := by decide +kernel
theorem d6 : decode yB 6 = .ok (.aload_n 3, 1) := by decide +kernel
theorem d7 : decode yB 7 = .ok (.iconst 0, 1) := by decide +kernel
theorem d8 : decode yB 8 = .ok (.iload_n 2, 1) := by decide +kernel
theorem d9 : decode yB 9 = .ok (.invokestatic 115, 3) := by decide +kernel
theorem d12 : decode yB 12 = .ok (.istore 4, 2) := by decide +kernel
theorem d14 : decode yB 14 = .ok (.iload 4, 2) := by decide +kernel
theorem d16 : decode yB 16 = .ok (.iload_n 2, 1) := by decide +kernel
theorem d17 : decode yB 17 = .ok (.if_icmp (.eq) 40, 3) := by decide +kernel
theorem d57 : decode yB 57 = .ok (.aload_n 3, 1) := by decide +kernel
theorem d58 : decode yB 58 = .ok (.areturn, 1) := by decide +kernel
def site : List Cond := [.arrayClass .byte, Cmp5.tab] ++ staticW U16 115 Cmp5.yN
def tab : Cond := tabOf yN yB 6 (some (.array .byte)) site
def P (b : Addr) (A : Cell) (o len : Nat) (args : Array Value) (s : State) : Prop := args = #[.ref b, .int (Int32.ofNat o), .int (Int32.ofNat len)] ∧ Ch b A s ∧ o + len ≤ A.slots.size ∧ len ≤ 536870912 ∧ ∀ i, i < len → ¬ 255 < cv A (o + i)
def E (b : Addr) (A : Cell) (o len : Nat) (r : Option Value) (s u : State) : Prop := NewArr .byte "[B" len (fun j => .int (lo8 (cv A (o + j)))) r s u ∧ u.heap.size = s.heap.size + 1
/-- no char of the range above 255: a new byte[] of their low bytes -/
theorem law (l : Launch) (b : Addr) (A : Cell) (o len : Nat) : Law l yN 3 3 1 18 yB 6 (some (.array .byte)) site (P b A o len) (E b A o len) [] 1 len := by
  refine Law.of_walk (plainFor_of_name (by decide +kernel)) (by decide +kernel) (by decide +kernel) (by decide) (fun _ _ h => by rw [h.1]; rfl) (fun _ U U' hal hh h => ⟨h.1, h.2.1.mv hal hh, h.2.2⟩) (fun r U U' V V' h1 hal h2 h => ⟨NewArr.mv r U U' V V' h1 hal h2 h.1, by rw [h1, h2]; exact h.2⟩) ?_
  intro p e s m args below meth c s₁ X0 hexec hbytes hml hret hlk hnm hown hh0 W hP
  obtain ⟨rfl, hA, l1, l2, hp⟩ := hP
  have a31 := hA.1.2.2.2
  have c1 : Steps p.tables e below (s₁.setTop (entryFrame m #[.ref b, .int (Int32.ofNat o), .int (Int32.ofNat len)] 6)) (s₁.setTop (mkF m 0 #[.val (.ref b), .val (.int (Int32.ofNat o)), .val (.int (Int32.ofNat len)), .unset, .unset, .unset] [])) := entry rfl
  have c2 : Steps p.tables e below (s₁.setTop (entryFrame m #[.ref b, .int (Int32.ofNat o), .int (Int32.ofNat len)] 6)) (s₁.setTop (mkF m 1 #[.val (.ref b), .val (.int (Int32.ofNat o)), .val (.int (Int32.ofNat len)), .unset, .unset, .unset] [.int (Int32.ofNat len)])) := c1.trans (by
    refine XS.iloadN X0.here hexec rfl (hb hbytes d0) rfl ?_
    exact Steps.refl _)
  obtain ⟨T3, B3, X3, ba3, bs3, bv3, bh3, bf3, st3⟩ := X0.anew hexec (atype := .byte) (wk W (.arrayClass .byte)) rfl (by show len * 1 ≤ _; omega) (by omega) (g := (mkF m 1 #[.val (.ref b), .val (.int (Int32.ofNat o)), .val (.int (Int32.ofNat len)), .unset, .unset, .unset] [.int (Int32.ofNat len)])) rfl (hb hbytes d1) (rest := []) rfl (Nat.le_refl _) (by show 0 + len ≤ len; omega)
  rw [hh0] at ba3 st3
  have kp3 : XT.Kept s T3 := (XT.Kept.of_eq hh0).push bh3
  have hA3 := hA.keep X3.warmed.alike (kp3 _ _ hA.1.1)
  have hne : b ≠ s.heap.size := hA.1.ne
  have c4 : Steps p.tables e below (s₁.setTop (entryFrame m #[.ref b, .int (Int32.ofNat o), .int (Int32.ofNat len)] 6)) (T3.setTop (mkF m 3 #[.val (.ref b), .val (.int (Int32.ofNat o)), .val (.int (Int32.ofNat len)), .unset, .unset, .unset] [.ref s.heap.size])) := c2.trans (st3 _ (Steps.refl _))
  have c5 : Steps p.tables e below (s₁.setTop (entryFrame m #[.ref b, .int (Int32.ofNat o), .int (Int32.ofNat len)] 6)) (T3.setTop (mkF m 9 #[.val (.ref b), .val (.int (Int32.ofNat o)), .val (.int (Int32.ofNat len)), .val (.ref s.heap.size), .unset, .unset] [.int (Int32.ofNat len), .int 0, .ref s.heap.size, .int (Int32.ofNat o), .ref b])) := c4.trans (by
    refine XS.astoreN X3.here hexec rfl (hb hbytes d3) rfl rfl rfl ?_
    refine XS.aloadN X3.here hexec rfl (hb hbytes d4) rfl rfl ?_
    refine XS.iloadN X3.here hexec rfl (hb hbytes d5) rfl ?_
    refine XS.aloadN X3.here hexec rfl (hb hbytes d6) rfl rfl ?_
    refine iconstV X3.here hexec rfl 0 (hb hbytes d7) (by decide) ?_
    refine XS.iloadN X3.here hexec rfl (hb hbytes d8) rfl ?_
    exact Steps.refl _)
  obtain ⟨v6, T6, X6, E6, g6⟩ := X3.callS hexec (Cmp5.law l b A s.heap.size B3 o 0 len) hown (wks W (staticW U16 115 Cmp5.yN)) (wk W Cmp5.tab) (W := 0) (Nat.le_of_ble_eq_true rfl) (Nat.le_of_ble_eq_true rfl) (Nat.le_refl _) (by show 0 + len + 0 ≤ len; omega) (g := (mkF m 9 #[.val (.ref b), .val (.int (Int32.ofNat o)), .val (.int (Int32.ofNat len)), .val (.ref s.heap.size), .unset, .unset] [.int (Int32.ofNat len), .int (Int32.ofNat 0), .ref s.heap.size, .int (Int32.ofNat o), .ref b])) rfl (by rw [hml]; rfl) c5 (argsL := [.ref b, .int (Int32.ofNat o), .ref s.heap.size, .int (Int32.ofNat 0), .int (Int32.ofNat len)]) (rest := []) rfl rfl (by show 2 * 0 + 0 ≤ _; decide) (hb hbytes d9) (⟨rfl, hA3, ba3, hne, l1, by rw [bs3]; simp, hp⟩)
  obtain ⟨rfl, B6, p6, f6⟩ := E6
  have c7 : Steps p.tables e below (s₁.setTop (entryFrame m #[.ref b, .int (Int32.ofNat o), .int (Int32.ofNat len)] 6)) (T6.setTop (mkF m 12 #[.val (.ref b), .val (.int (Int32.ofNat o)), .val (.int (Int32.ofNat len)), .val (.ref s.heap.size), .unset, .unset] [.int (Int32.ofNat len)])) := g6
  have c8 : Steps p.tables e below (s₁.setTop (entryFrame m #[.ref b, .int (Int32.ofNat o), .int (Int32.ofNat len)] 6)) (T6.setTop (mkF m 58 #[.val (.ref b), .val (.int (Int32.ofNat o)), .val (.int (Int32.ofNat len)), .val (.ref s.heap.size), .val (.int (Int32.ofNat len)), .unset] [.ref s.heap.size])) := c7.trans (by
    refine XS.istore X6.here hexec rfl (hb hbytes d12) rfl rfl ?_
    refine XS.iload X6.here hexec rfl (hb hbytes d14) rfl ?_
    refine XS.iloadN X6.here hexec rfl (hb hbytes d16) rfl ?_
    refine XS.icmpYes X6.here hexec rfl (pc0 := 17) rfl (hb hbytes d17) rfl (ii_eq_t rfl) (by decide) rfl ?_
    refine XS.aloadN X6.here hexec rfl (hb hbytes d57) rfl rfl ?_
    exact Steps.refl _)
  have X8 := X6.wide (L' := []) (cells' := 1) (slots' := len) (fun x hx hlt => by
    simp only [List.nil_append, copyLocs, List.mem_map, List.mem_range] at hx
    obtain ⟨i, -, rfl⟩ := hx
    exact absurd hlt (Nat.lt_irrefl _)) (Nat.le_refl _) (by omega)
  exact ⟨T6, some (.ref s.heap.size), _, _, _, X8, rfl, rfl, rfl, (fun h => by cases h), ⟨⟨rfl, B6, ba3.like (X3.warmed.alike.symm.trans X6.warmed.alike) p6.1 f6.1 f6.2.1 f6.2.2.1, f6.2.1.trans bv3, by rw [X6.warmed.alike.findClass, f6.1]; exact bf3, by rw [f6.2.2.1, bs3]; simp, fun j hj => by rw [f6.2.2.2 j, if_pos (by omega)]; rfl, kp3.put p6 (Nat.le_refl _)⟩, by rw [p6.2.2, bh3, hh0]; simp⟩, fun fs hl => c8.trans (X8.areturnOut hexec rfl hret rfl (hb hbytes d58) hl)⟩
end Cmp3
namespace CodL
def yN : MethodName := ⟨"java/lang/StringUTF16", "coderFromArrayLen", "([BI)B"⟩
abbrev yB : ByteArray := jdk_52_method_15_code
theorem d0 : decode yB 0 = .ok (.iload_n 1, 1) := by decide +kernel
theorem d1 : decode yB 1 = .ok (.aload_n 0, 1) := by decide +kernel
theorem d2 : decode yB 2 = .ok (.arraylength, 1) := by decide +kernel
theorem d3 : decode yB 3 = .ok (.isub, 1) := by decide +kernel
theorem d4 : decode yB 4 = .ok (.bipush 31, 2) := by decide +kernel
theorem d6 : decode yB 6 = .ok (.iushr, 1) := by decide +kernel
theorem d7 : decode yB 7 = .ok (.i2b, 1) := by decide +kernel
theorem d8 : decode yB 8 = .ok (.ireturn, 1) := by decide +kernel
def site : List Cond := []
def tab : Cond := tabOf yN yB 2 (some .byte) site
def P (d : Addr) (B : Cell) (args : Array Value) (s : State) : Prop := args = #[.ref d, .int (Int32.ofNat B.slots.size)] ∧ Arr .byte d B s
def E (r : Option Value) (s u : State) : Prop := XT.PureE (some (.int 0)) r s u
/-- an array as long as the number of chars: LATIN1 -/
theorem law (l : Launch) (d : Addr) (B : Cell) : Law l yN 2 2 0 0 yB 2 (some .byte) site (P d B) E [] 0 0 := by
  refine Law.of_walk (plainFor_of_name (by decide +kernel)) (by decide +kernel) (by decide +kernel) (by decide) (fun _ _ h => by rw [h.1]; rfl) (fun _ U U' hal hh h => ⟨h.1, h.2.mv hal hh⟩) (fun r U U' V V' h1 hal h2 h => XT.PureE.mv r U U' V V' h1 hal h2 h) ?_
  intro p e s m args below meth c s₁ X0 hexec hbytes hml hret hlk hnm hown hh0 W hP
  obtain ⟨rfl, hB⟩ := hP
  have hB0 := hB.mv X0.warmed.alike hh0
  have c1 : Steps p.tables e below (s₁.setTop (entryFrame m #[.ref d, .int (Int32.ofNat B.slots.size)] 2)) (s₁.setTop (mkF m 0 #[.val (.ref d), .val (.int (Int32.ofNat B.slots.size))] [])) := entry rfl
  have c2 : Steps p.tables e below (s₁.setTop (entryFrame m #[.ref d, .int (Int32.ofNat B.slots.size)] 2)) (s₁.setTop (mkF m 2 #[.val (.ref d), .val (.int (Int32.ofNat B.slots.size))] [.ref d, .int (Int32.ofNat B.slots.size)])) := c1.trans (by
    refine XS.iloadN X0.here hexec rfl (hb hbytes d0) rfl ?_
    refine XS.aloadN X0.here hexec rfl (hb hbytes d1) rfl rfl ?_
    exact Steps.refl _)
  have c3 : Steps p.tables e below (s₁.setTop (entryFrame m #[.ref d, .int (Int32.ofNat B.slots.size)] 2)) (s₁.setTop (mkF m 8 #[.val (.ref d), .val (.int (Int32.ofNat B.slots.size))] [.int (lo8 (ushr (Int32.ofNat B.slots.size - Int32.ofNat B.slots.size) 31))])) := c2.trans (by
    refine X0.alen hexec hB0 rfl rfl (hb hbytes d2) ?_
    refine XS.isub X0.here hexec rfl (hb hbytes d3) rfl ?_
    refine bipushV X0.here hexec rfl 31 (hb hbytes d4) (by decide) ?_
    refine iushr X0.here hexec rfl (hb hbytes d6) rfl ?_
    refine i2b X0.here hexec rfl (hb hbytes d7) rfl ?_
    exact Steps.refl _)
  have e0 : lo8 (ushr (Int32.ofNat B.slots.size - Int32.ofNat B.slots.size) 31) = 0 := by rw [Int32.sub_self]; decide
  rw [e0] at c3
  exact ⟨s₁, some (.int 0), _, _, _, X0, rfl, rfl, rfl, (fun h => by cases h), ⟨rfl, hh0⟩, fun fs hl => c3.trans (X0.ireturnOut hexec hret rfl (Or.inr (Or.inr (Or.inl rfl))) (hb hbytes d8) hl)⟩
end CodL
/-- the String at a is Latin-1 over a new byte[] (the heap's one new cell): the low bytes of the len chars of A from o on; every cell but a is kept -/
def Got (a : Addr) (D : Cell) (fV fC : Field) (A : Cell) (o len : Nat) (r : Option Value) (s u : State) : Prop := r = none ∧ ∃ D' V : Cell, Blank "java/lang/String" a D' u ∧ Same D D' [fV.slot, fC.slot] ∧ D'.slots[fV.slot]? = some (.ref s.heap.size) ∧ D'.slots[fC.slot]? = some (.int 0) ∧ Arr .byte s.heap.size V u ∧ V.vm = .none ∧ u.vm.findClass "[B" = some V.cls ∧ V.slots.size = len ∧ (∀ j, j < len → V.slots[j]? = some (.int (lo8 (cv A (o + j))))) ∧ (∀ (y : Addr) (c : Cell), y ≠ a → s.heap[y]? = some c → u.heap[y]? = some c) ∧ u.heap.size = s.heap.size + 1
theorem Got.mv {a : Addr} {D A : Cell} {fV fC : Field} {o len : Nat} : ∀ r (U U' V V' : State), U'.heap = U.heap → V.vm.Alike V'.vm → V'.heap = V.heap → Got a D fV fC A o len r U V → Got a D fV fC A o len r U' V' :=
  fun r U U' V V' h1 hal h2 ⟨e0, D', X, a1, a2, a3, a4, a5, a6, a7, a8, a9, a10, a11⟩ => ⟨e0, D', X, a1.mv hal h2, a2, by rw [h1]; exact a3, a4, by rw [h1]; exact a5.mv hal h2, a6, by rw [hal.findClass]; exact a7, a8, a9, by rw [h1, h2]; exact a10, by rw [h1, h2]; exact a11⟩
namespace New4
def yN : MethodName := ⟨"java/lang/String", "<init>", "([CIILjava/lang/Void;)V"⟩
abbrev yB : ByteArray := jdk_42_method_149_code
theorem d0 : decode yB 0 = .ok (.aload_n 0, 1) := by decide +kernel
theorem d1 : decode yB 1 = .ok (.invokespecial 1, 3) := by decide +kernel
theorem d4 : decode yB 4 = .ok (.iload_n 3, 1) := by decide +kernel
theorem d5 : decode yB 5 = .ok (.ifCond (.ne) 22, 3) := by decide +kernel
theorem d27 : decode yB 27 = .ok (.getstatic 38, 3) := by decide +kernel
theorem d30 : decode yB 30 = .ok (.ifCond (.eq) 28, 3) := by decide +kernel
theorem d33 : decode yB 33 = .ok (.aload_n 1, 1) := by decide +kernel
theorem d34 : decode yB 34 = .ok (.iload_n 2, 1) := by decide +kernel
theorem d35 : decode yB 35 = .ok (.iload_n 3, 1) := by decide +kernel
theorem d36 : decode yB 36 = .ok (.invokestatic 177, 3) := by decide +kernel
theorem d39 : decode yB 39 = .ok (.astore 5, 2) := by decide +kernel
theorem d41 : decode yB 41 = .ok (.aload_n 0, 1) := by decide +kernel
theorem d42 : decode yB 42 = .ok (.aload 5, 2) := by decide +kernel
theorem d44 : decode yB 44 = .ok (.iload_n 3, 1) := by decide +kernel
theorem d45 : decode yB 45 = .ok (.invokestatic 47, 3) := by decide +kernel
theorem d48 : decode yB 48 = .ok (.putfield 15, 3) := by decide +kernel
theorem d51 : decode yB 51 = .ok (.aload_n 0, 1) := by decide +kernel
theorem d52 : decode yB 52 = .ok (.aload 5, 2) := by decide +kernel
theorem d54 : decode yB 54 = .ok (.putfield 9, 3) := by decide +kernel
theorem d57 : decode yB 57 = .ok (.return_, 1) := by decide +kernel
def site : List Cond := [.fieldLink "java/lang/String" 38 "java/lang/String" "COMPACT_STRINGS" "Z", Cmp3.tab, CodL.tab, .laysFinal "java/lang/String" "java/lang/String" "value" "[B", .fieldLink "java/lang/String" 9 "java/lang/String" "value" "[B", .laysFinal "java/lang/String" "java/lang/String" "coder" "B", .fieldLink "java/lang/String" 15 "java/lang/String" "coder" "B"] ++ objW "java/lang/String" 1 ++ staticW "java/lang/String" 177 Cmp3.yN ++ staticW "java/lang/String" 47 CodL.yN
def tab : Cond := tabOf yN yB 6 none site
def P (a : Addr) (D : Cell) (fV fC : Field) (b : Addr) (A : Cell) (z : Int32) (o len : Nat) (args : Array Value) (s : State) : Prop := args = #[.ref a, .ref b, .int (Int32.ofNat o), .int (Int32.ofNat len), .null] ∧ Blank "java/lang/String" a D s ∧ Found "java/lang/String" "value" "[B" fV s ∧ Found "java/lang/String" "coder" "B" fC s ∧ Ch b A s ∧ StaticIs s "java/lang/String" "COMPACT_STRINGS" "Z" (.int z) ∧ ¬ z = 0 ∧ 0 < len ∧ o + len ≤ A.slots.size ∧ len ≤ 536870912 ∧ ∀ i, i < len → ¬ 255 < cv A (o + i)
def E (a : Addr) (D : Cell) (fV fC : Field) (A : Cell) (o len : Nat) (r : Option Value) (s u : State) : Prop := Got a D fV fC A o len r s u
/-- len > 0, no char of the range above 255: a Latin-1 String of their low bytes -/
theorem law (l : Launch) (a : Addr) (D : Cell) (fV fC : Field) (b : Addr) (A : Cell) (z : Int32) (o len : Nat) : Law l yN 5 4 2 35 yB 6 none site (P a D fV fC b A z o len) (E a D fV fC A o len) [⟨a, fC.slot⟩, ⟨a, fV.slot⟩] 1 len := by
  refine Law.of_walk (plainFor_of_name (by decide +kernel)) (by decide +kernel) (by decide +kernel) (by decide) (fun _ _ h => by rw [h.1]; rfl) (fun _ U U' hal hh h => ⟨h.1, h.2.1.mv hal hh, h.2.2.1.al hal, h.2.2.2.1.al hal, h.2.2.2.2.1.mv hal hh, h.2.2.2.2.2.1.there hal hh, h.2.2.2.2.2.2⟩) (fun r U U' V V' h1 hal h2 h => Got.mv r U U' V V' h1 hal h2 h) ?_
  intro p e s m args below meth c s₁ X0 hexec hbytes hml hret hlk hnm hown hh0 W hP
  obtain ⟨rfl, hB, f1, f2, hA, s1, hz, l0, l1, l2, hp⟩ := hP
  have a31 := hA.1.2.2.2
  have c1 : Steps p.tables e below (s₁.setTop (entryFrame m #[.ref a, .ref b, .int (Int32.ofNat o), .int (Int32.ofNat len), .null] 6)) (s₁.setTop (mkF m 0 #[.val (.ref a), .val (.ref b), .val (.int (Int32.ofNat o)), .val (.int (Int32.ofNat len)), .val .null, .unset] [])) := entry rfl
  have c2 : Steps p.tables e below (s₁.setTop (entryFrame m #[.ref a, .ref b, .int (Int32.ofNat o), .int (Int32.ofNat len), .null] 6)) (s₁.setTop (mkF m 1 #[.val (.ref a), .val (.ref b), .val (.int (Int32.ofNat o)), .val (.int (Int32.ofNat len)), .val .null, .unset] [.ref a])) := c1.trans (by
    refine XS.aloadN X0.here hexec rfl (hb hbytes d0) rfl rfl ?_
    exact Steps.refl _)
  obtain ⟨T3, X3, q3, st3⟩ := X0.oinit hexec hown (wks W (objW "java/lang/String" 1)) (g := (mkF m 1 #[.val (.ref a), .val (.ref b), .val (.int (Int32.ofNat o)), .val (.int (Int32.ofNat len)), .val .null, .unset] [.ref a])) rfl (by rw [hml]; rfl) (rest := []) rfl (hb hbytes d1) (W := 0) (by show 2 * 0 + 0 ≤ _; decide) (Nat.le_of_ble_eq_true rfl) (Nat.le_of_ble_eq_true rfl)
  have hh3 := q3.trans hh0
  have c4 : Steps p.tables e below (s₁.setTop (entryFrame m #[.ref a, .ref b, .int (Int32.ofNat o), .int (Int32.ofNat len), .null] 6)) (T3.setTop (mkF m 27 #[.val (.ref a), .val (.ref b), .val (.int (Int32.ofNat o)), .val (.int (Int32.ofNat len)), .val .null, .unset] [])) := (c2.trans (st3 _ (Steps.refl _))).trans (by
    refine XS.iloadN X3.here hexec rfl (hb hbytes d4) rfl ?_
    refine XS.ifYes X3.here hexec rfl (pc0 := 5) rfl (hb hbytes d5) rfl (i0_ne_t (nz32 (by omega) l0)) (by decide) rfl ?_
    exact Steps.refl _)
  obtain ⟨T5, X5, q5, st5⟩ := X3.sget hexec hown (wk W (.fieldLink "java/lang/String" 38 "java/lang/String" "COMPACT_STRINGS" "Z")) s1 (fun _ _ h => by rw [hh3]; exact h) (g := (mkF m 27 #[.val (.ref a), .val (.ref b), .val (.int (Int32.ofNat o)), .val (.int (Int32.ofNat len)), .val .null, .unset] [])) rfl (hb hbytes d27)
  have hh5 := q5.trans hh3
  have c6 : Steps p.tables e below (s₁.setTop (entryFrame m #[.ref a, .ref b, .int (Int32.ofNat o), .int (Int32.ofNat len), .null] 6)) (T5.setTop (mkF m 30 #[.val (.ref a), .val (.ref b), .val (.int (Int32.ofNat o)), .val (.int (Int32.ofNat len)), .val .null, .unset] [.int z])) := c4.trans (st5 _ (Steps.refl _))
  have c7 : Steps p.tables e below (s₁.setTop (entryFrame m #[.ref a, .ref b, .int (Int32.ofNat o), .int (Int32.ofNat len), .null] 6)) (T5.setTop (mkF m 36 #[.val (.ref a), .val (.ref b), .val (.int (Int32.ofNat o)), .val (.int (Int32.ofNat len)), .val .null, .unset] [.int (Int32.ofNat len), .int (Int32.ofNat o), .ref b])) := c6.trans (by
    refine XS.ifNo X5.here hexec rfl (hb hbytes d30) rfl (i0_eq_f hz) ?_
    refine XS.aloadN X5.here hexec rfl (hb hbytes d33) rfl rfl ?_
    refine XS.iloadN X5.here hexec rfl (hb hbytes d34) rfl ?_
    refine XS.iloadN X5.here hexec rfl (hb hbytes d35) rfl ?_
    exact Steps.refl _)
  obtain ⟨v8, T8, X8, E8, g8⟩ := X5.callS hexec (Cmp3.law l b A o len) hown (wks W (staticW "java/lang/String" 177 Cmp3.yN)) (wk W Cmp3.tab) (W := 0) (Nat.le_of_ble_eq_true rfl) (Nat.le_of_ble_eq_true rfl) (Nat.le_refl _) (by show 0 + len ≤ len; omega) (g := (mkF m 36 #[.val (.ref a), .val (.ref b), .val (.int (Int32.ofNat o)), .val (.int (Int32.ofNat len)), .val .null, .unset] [.int (Int32.ofNat len), .int (Int32.ofNat o), .ref b])) rfl (by rw [hml]; rfl) c7 (argsL := [.ref b, .int (Int32.ofNat o), .int (Int32.ofNat len)]) (rest := []) rfl rfl (by show 2 * 0 + 0 ≤ _; decide) (hb hbytes d36) (⟨rfl, hA.mv X5.warmed.alike hh5, l1, l2, hp⟩)
  obtain ⟨e8, z8⟩ := E8
  obtain ⟨rfl, N, n1, n2, n3, n4, n5, n6⟩ := NewArr.mv _ T5 s _ _ hh5.symm (Vm.Alike.refl _) rfl e8
  rw [hh5] at z8
  have hB1 := hB.keep X8.warmed.alike (n6 _ _ hB.1)
  have hne : s.heap.size ≠ a := (Nat.ne_of_lt (Array.getElem?_eq_some_iff.mp hB.1).1).symm
  have c9 : Steps p.tables e below (s₁.setTop (entryFrame m #[.ref a, .ref b, .int (Int32.ofNat o), .int (Int32.ofNat len), .null] 6)) (T8.setTop (mkF m 39 #[.val (.ref a), .val (.ref b), .val (.int (Int32.ofNat o)), .val (.int (Int32.ofNat len)), .val .null, .unset] [.ref s.heap.size])) := g8
  have c10 : Steps p.tables e below (s₁.setTop (entryFrame m #[.ref a, .ref b, .int (Int32.ofNat o), .int (Int32.ofNat len), .null] 6)) (T8.setTop (mkF m 45 #[.val (.ref a), .val (.ref b), .val (.int (Int32.ofNat o)), .val (.int (Int32.ofNat len)), .val .null, .val (.ref s.heap.size)] [.int (Int32.ofNat N.slots.size), .ref s.heap.size, .ref a])) := by
    have hc : Steps p.tables e below (s₁.setTop (entryFrame m #[.ref a, .ref b, .int (Int32.ofNat o), .int (Int32.ofNat len), .null] 6)) (T8.setTop (mkF m 45 #[.val (.ref a), .val (.ref b), .val (.int (Int32.ofNat o)), .val (.int (Int32.ofNat len)), .val .null, .val (.ref s.heap.size)] [.int (Int32.ofNat len), .ref s.heap.size, .ref a])) := c9.trans (by
      refine XS.astore X8.here hexec rfl (hb hbytes d39) rfl rfl rfl ?_
      refine XS.aloadN X8.here hexec rfl (hb hbytes d41) rfl rfl ?_
      refine XS.aload X8.here hexec rfl (hb hbytes d42) rfl rfl ?_
      refine XS.iloadN X8.here hexec rfl (hb hbytes d44) rfl ?_
      exact Steps.refl _)
    rw [n4]; exact hc
  obtain ⟨v11, T11, X11, E11, g11⟩ := X8.callS hexec (CodL.law l s.heap.size N) hown (wks W (staticW "java/lang/String" 47 CodL.yN)) (wk W CodL.tab) (W := 1) (Nat.le_of_ble_eq_true rfl) (Nat.le_of_ble_eq_true rfl) (Nat.le_refl _) (by show 0 + len + 0 ≤ len; omega) (g := (mkF m 45 #[.val (.ref a), .val (.ref b), .val (.int (Int32.ofNat o)), .val (.int (Int32.ofNat len)), .val .null, .val (.ref s.heap.size)] [.int (Int32.ofNat N.slots.size), .ref s.heap.size, .ref a])) rfl (by rw [hml]; rfl) c10 (argsL := [.ref s.heap.size, .int (Int32.ofNat N.slots.size)]) (rest := [.ref a]) rfl rfl (by show 2 * 0 + (1 + 0) ≤ _; decide) (hb hbytes d45) (⟨rfl, n1⟩)
  obtain ⟨rfl, q11⟩ := E11
  have hB11 := hB1.mv (X8.warmed.alike.symm.trans X11.warmed.alike) q11
  have c12 : Steps p.tables e below (s₁.setTop (entryFrame m #[.ref a, .ref b, .int (Int32.ofNat o), .int (Int32.ofNat len), .null] 6)) (T11.setTop (mkF m 48 #[.val (.ref a), .val (.ref b), .val (.int (Int32.ofNat o)), .val (.int (Int32.ofNat len)), .val .null, .val (.ref s.heap.size)] [.int 0, .ref a])) := g11
  obtain ⟨T13, X13, p13, bl13, sl13, st13⟩ := X11.finit hexec hown (wk W (.fieldLink "java/lang/String" 15 "java/lang/String" "coder" "B")) (Or.inr ⟨_, (wk W (.laysFinal "java/lang/String" "java/lang/String" "coder" "B"))⟩) (Or.inl ⟨rfl, hnm⟩) f2 (Or.inl rfl) hB11 (t := .byte) (by decide +kernel) rfl (g := (mkF m 48 #[.val (.ref a), .val (.ref b), .val (.int (Int32.ofNat o)), .val (.int (Int32.ofNat len)), .val .null, .val (.ref s.heap.size)] [.int 0, .ref a])) rfl (rest := []) rfl (hb hbytes d48)
  have c14 : Steps p.tables e below (s₁.setTop (entryFrame m #[.ref a, .ref b, .int (Int32.ofNat o), .int (Int32.ofNat len), .null] 6)) (T13.setTop (mkF m 54 #[.val (.ref a), .val (.ref b), .val (.int (Int32.ofNat o)), .val (.int (Int32.ofNat len)), .val .null, .val (.ref s.heap.size)] [.ref s.heap.size, .ref a])) := (c12.trans (st13 _ (Steps.refl _))).trans (by
    refine XS.aloadN X13.here hexec rfl (hb hbytes d51) rfl rfl ?_
    refine XS.aload X13.here hexec rfl (hb hbytes d52) rfl rfl ?_
    exact Steps.refl _)
  obtain ⟨T15, X15, p15, bl15, sl15, st15⟩ := X13.finit hexec hown (wk W (.fieldLink "java/lang/String" 9 "java/lang/String" "value" "[B")) (Or.inr ⟨_, (wk W (.laysFinal "java/lang/String" "java/lang/String" "value" "[B"))⟩) (Or.inl ⟨rfl, hnm⟩) f1 (Or.inl rfl) bl13 (t := (.array .byte)) (by decide +kernel) rfl (g := (mkF m 54 #[.val (.ref a), .val (.ref b), .val (.int (Int32.ofNat o)), .val (.int (Int32.ofNat len)), .val .null, .val (.ref s.heap.size)] [.ref s.heap.size, .ref a])) rfl (rest := []) rfl (hb hbytes d54)
  have c16 : Steps p.tables e below (s₁.setTop (entryFrame m #[.ref a, .ref b, .int (Int32.ofNat o), .int (Int32.ofNat len), .null] 6)) (T15.setTop (mkF m 57 #[.val (.ref a), .val (.ref b), .val (.int (Int32.ofNat o)), .val (.int (Int32.ofNat len)), .val .null, .val (.ref s.heap.size)] [])) := c14.trans (st15 _ (Steps.refl _))
  have ap := apart (Or.inr ⟨_, (wk W (.laysFinal "java/lang/String" "java/lang/String" "value" "[B"))⟩) (Or.inr ⟨_, (wk W (.laysFinal "java/lang/String" "java/lang/String" "coder" "B"))⟩) f1 f2 (t₁ := .array .byte) (t₂ := .byte) (by decide +kernel) (by decide +kernel) (by decide)
  have al := X8.warmed.alike.symm.trans X15.warmed.alike
  have n7 : T11.heap[s.heap.size]? = some N := by rw [q11]; exact n1.1
  exact ⟨T15, none, _, _, _, X15, by simp, rfl, by omega, (fun _ => rfl), ⟨rfl, _, N, bl15, ((Same.refl D _).set _ (by simp)).set _ (by simp), sl15, (Cell.slots_setSlot_ne _ ap).trans sl13, n1.keep al (p15.other hne (p13.other hne n7)), n2, by rw [al.findClass]; exact n3, n4, n5, fun y c h1 h2 => p15.other h1 (p13.other h1 (by rw [q11]; exact n6 y c h2)), by rw [p15.2.2, p13.2.2, q11]; exact z8⟩, fun fs hl => c16.trans (X15.returnOut hexec hret (hb hbytes d57) hl)⟩
end New4
namespace New1
def yN : MethodName := ⟨"java/lang/String", "<init>", "([C)V"⟩
abbrev yB : ByteArray := jdk_42_method_3_code
theorem d0 : decode yB 0 = .ok (.aload_n 0, 1) := by decide +kernel
theorem d1 : decode yB 1 = .ok (.aload_n 1, 1) := by decide +kernel
theorem d2 : decode yB 2 = .ok (.iconst 0, 1) := by decide +kernel
theorem d3 : decode yB 3 = .ok (.aload_n 1, 1) := by decide +kernel
theorem d4 : decode yB 4 = .ok (.arraylength, 1) := by decide +kernel
theorem d5 : decode yB 5 = .ok (.aconst_null, 1) := by decide +kernel
theorem d6 : decode yB 6 = .ok (.invokespecial 27, 3) := by decide +kernel
theorem d9 : decode yB 9 = .ok (.return_, 1) := by decide +kernel
def site : List Cond := [New4.tab] ++ initW "java/lang/String" 27 New4.yN
def tab : Cond := tabOf yN yB 2 none site
def P (a : Addr) (D : Cell) (fV fC : Field) (b : Addr) (A : Cell) (z : Int32) (args : Array Value) (s : State) : Prop := args = #[.ref a, .ref b] ∧ Blank "java/lang/String" a D s ∧ Found "java/lang/String" "value" "[B" fV s ∧ Found "java/lang/String" "coder" "B" fC s ∧ Ch b A s ∧ StaticIs s "java/lang/String" "COMPACT_STRINGS" "Z" (.int z) ∧ ¬ z = 0 ∧ 0 < A.slots.size ∧ A.slots.size ≤ 536870912 ∧ ∀ i, i < A.slots.size → ¬ 255 < cv A i
def E (a : Addr) (D : Cell) (fV fC : Field) (A : Cell) (r : Option Value) (s u : State) : Prop := Got a D fV fC A 0 A.slots.size r s u
/-- new String(chars), not empty, no char above 255: a Latin-1 String of their low bytes -/
theorem law (l : Launch) (a : Addr) (D : Cell) (fV fC : Field) (b : Addr) (A : Cell) (z : Int32) : Law l yN 2 1 3 52 yB 2 none site (P a D fV fC b A z) (E a D fV fC A) [⟨a, fC.slot⟩, ⟨a, fV.slot⟩] 1 A.slots.size := by
  refine Law.of_walk (plainFor_of_name (by decide +kernel)) (by decide +kernel) (by decide +kernel) (by decide) (fun _ _ h => by rw [h.1]; rfl) (fun _ U U' hal hh h => ⟨h.1, h.2.1.mv hal hh, h.2.2.1.al hal, h.2.2.2.1.al hal, h.2.2.2.2.1.mv hal hh, h.2.2.2.2.2.1.there hal hh, h.2.2.2.2.2.2⟩) (fun r U U' V V' h1 hal h2 h => Got.mv r U U' V V' h1 hal h2 h) ?_
  intro p e s m args below meth c s₁ X0 hexec hbytes hml hret hlk hnm hown hh0 W hP
  obtain ⟨rfl, hB, f1, f2, hA, s1, hz, l0, l2, hp⟩ := hP
  have c1 : Steps p.tables e below (s₁.setTop (entryFrame m #[.ref a, .ref b] 2)) (s₁.setTop (mkF m 0 #[.val (.ref a), .val (.ref b)] [])) := entry rfl
  have c2 : Steps p.tables e below (s₁.setTop (entryFrame m #[.ref a, .ref b] 2)) (s₁.setTop (mkF m 6 #[.val (.ref a), .val (.ref b)] [.null, .int (Int32.ofNat A.slots.size), .int 0, .ref b, .ref a])) := c1.trans (by
    refine XS.aloadN X0.here hexec rfl (hb hbytes d0) rfl rfl ?_
    refine XS.aloadN X0.here hexec rfl (hb hbytes d1) rfl rfl ?_
    refine iconstV X0.here hexec rfl 0 (hb hbytes d2) (by decide) ?_
    refine XS.aloadN X0.here hexec rfl (hb hbytes d3) rfl rfl ?_
    refine X0.alen hexec (hA.1.mv X0.warmed.alike hh0) rfl rfl (hb hbytes d4) ?_
    refine XS.aconstNull X0.here hexec rfl (hb hbytes d5) ?_
    exact Steps.refl _)
  obtain ⟨v3, T3, X3, E3, g3⟩ := X0.callN hexec (New4.law l a D fV fC b A z 0 A.slots.size) rfl hown (wks W (initW "java/lang/String" 27 New4.yN)) (W New4.tab (by simp only [site, List.mem_cons, List.mem_append, true_or, or_true])) (W := 0) (Nat.le_of_ble_eq_true rfl) (Nat.le_of_ble_eq_true rfl) (Nat.le_refl _) (by show 0 + A.slots.size ≤ A.slots.size; omega) (g := (mkF m 6 #[.val (.ref a), .val (.ref b)] [.null, .int (Int32.ofNat A.slots.size), .int (Int32.ofNat 0), .ref b, .ref a])) rfl (by rw [hml]; rfl) c2 (argsL := [.ref b, .int (Int32.ofNat 0), .int (Int32.ofNat A.slots.size), .null]) (rest := []) rfl rfl (by show 2 * 0 + 0 ≤ _; decide) (hb hbytes d6) (⟨rfl, hB.mv X0.warmed.alike hh0, f1.al X0.warmed.alike, f2.al X0.warmed.alike, hA.mv X0.warmed.alike hh0, s1.there X0.warmed.alike hh0, hz, l0, by omega, l2, fun i hi => by rw [Nat.zero_add]; exact hp i hi⟩)
  have e0 := Got.mv _ s₁ s _ _ hh0.symm (Vm.Alike.refl _) rfl E3
  obtain rfl := e0.1
  have c4 : Steps p.tables e below (s₁.setTop (entryFrame m #[.ref a, .ref b] 2)) (T3.setTop (mkF m 9 #[.val (.ref a), .val (.ref b)] [])) := g3
  exact ⟨T3, none, _, _, _, X3, by simp, rfl, by omega, (fun _ => rfl), e0, fun fs hl => c4.trans (X3.returnOut hexec hret (hb hbytes d9) hl)⟩
theorem pays {l : Launch} {R : Room} {p : Program} {e : Env} {below : List Frame} {s : State} {sargs : Array Value} {len W : Nat} (a : Addr) (D : Cell) (fV fC : Field) (b : Addr) (A : Cell) (z : Int32) (htab : tab.before sargs s = true) (hfr : 4 ≤ R.frames) (hlo : W + 65 ≤ R.locals) :
    Back l R p e below s sargs yN len W (fun A₁ a₁ => A₁.cells + 1 ≤ R.cells ∧ A₁.slots + A.slots.size ≤ R.slots ∧ P a D fV fC b A z a₁ A₁.U) (fun A₁ _ v₁ B₁ => E a D fV fC A v₁ A₁.U B₁.U ∧ B₁.locs = A₁.locs ++ [⟨a, fC.slot⟩, ⟨a, fV.slot⟩] ∧ B₁.cells = A₁.cells + 1 ∧ B₁.slots = A₁.slots + A.slots.size) :=
  (law l a D fV fC b A z).pays htab hfr (by omega)
end New1
end StrChars
namespace StrChars.Road
open Jvm Sem ClassFile Op Lib Jvm.Stand Jvm.Free Jvm.Free.XT
open Jvm.Lib.Cold (StaticIs)
abbrev ST : String := "java/lang/String"
/-- every table word that New1's law asks, flat -/
abbrev words : List Jvm.Cond := [.code New1.yN New1.yB 2 none, .initialized ST, .methodLink ST 27 New4.yN, .instanceMethod New4.yN,
  .code New4.yN New4.yB 6 none, .fieldLink ST 38 ST "COMPACT_STRINGS" "Z", .laysFinal ST ST "value" "[B", .fieldLink ST 9 ST "value" "[B", .laysFinal ST ST "coder" "B", .fieldLink ST 15 ST "coder" "B",
  .methodLink ST 1 Lib.objectInit, .instanceMethod Lib.objectInit, .code Lib.objectInit ⟨#[0xb1]⟩ 1 none, .methodLink ST 177 Cmp3.yN, .static Cmp3.yN, .methodLink ST 47 CodL.yN, .static CodL.yN,
  .code Cmp3.yN Cmp3.yB 6 (some (.array .byte)), .initialized U16, .arrayClass .byte, .methodLink U16 115 Cmp5.yN, .static Cmp5.yN, .code Cmp5.yN Cmp5.yB 7 (some .int), .code CodL.yN CodL.yB 2 (some .byte)]
theorem tab_of {a : Array Value} {s : State} (h : ∀ w ∈ words, w.before a s = true) : New1.tab.before a s = true := by
  have h5 : Cmp5.tab.before a s = true := unparts (wk h (.code Cmp5.yN Cmp5.yB 7 (some .int))) (wks h (.initialized Cmp5.yN.cls :: Cmp5.site))
  have hc : CodL.tab.before a s = true := unparts (wk h (.code CodL.yN CodL.yB 2 (some .byte))) (wks h (.initialized CodL.yN.cls :: CodL.site))
  have q5 : ∀ w ∈ Cmp5.tab :: words, w.before a s = true := fun w hw => (List.mem_cons.mp hw).elim (fun e => e ▸ h5) (h w)
  have h3 : Cmp3.tab.before a s = true := unparts (wk q5 (.code Cmp3.yN Cmp3.yB 6 (some (.array .byte)))) (wks q5 (.initialized Cmp3.yN.cls :: Cmp3.site))
  have q3 : ∀ w ∈ Cmp3.tab :: CodL.tab :: words, w.before a s = true := fun w hw => (List.mem_cons.mp hw).elim (fun e => e ▸ h3) fun hw => (List.mem_cons.mp hw).elim (fun e => e ▸ hc) (h w)
  have h4 : New4.tab.before a s = true := unparts (wk q3 (.code New4.yN New4.yB 6 none)) (wks q3 (.initialized New4.yN.cls :: New4.site))
  have q4 : ∀ w ∈ New4.tab :: words, w.before a s = true := fun w hw => (List.mem_cons.mp hw).elim (fun e => e ▸ h4) (h w)
  exact unparts (wk q4 (.code New1.yN New1.yB 2 none)) (wks q4 (.initialized New1.yN.cls :: New1.site))
/-- the words ride from the start Z to the walk's own state -/
theorem moved {Z s : State} {a0 args : Array Value} (hZ : Z.Warmed39 s.vm) (hw : ∀ d ∈ words, d.before a0 Z = true) : ∀ d ∈ words, d.before args s = true := fun d hd => by
  have q := hw d hd
  have t : ∀ d ∈ words, d = .arrayClass .byte ∨ (d.onTables && d.keepsFace) = true := by decide +kernel
  rcases t d hd with rfl | t
  · exact RoadKit.mvA hZ q
  · exact RoadKit.mv hZ q t
/-- WHAT COMES BACK, over the tables of the start Z: h the heap at the call, h' behind it -/
def Q (Z : State) (x : Addr) (A : Cell) (h : Heap) (v : Option Value) (h' : Heap) (L : List Loc) : Prop := v = none ∧ (∀ y ∈ L, y.base = x) ∧ RoadKit.Keep h h' [x] ∧ h'.size = h.size + 1 ∧ RoadKit.Exa Z h' x ST ∧ RoadKit.Fld Z h' x ST "value" "[B" (.ref h.size) ∧ RoadKit.Fld Z h' x ST "coder" "B" (.int 0) ∧
  (∃ V : Cell, RoadKit.Arr Z h' h.size V .byte ∧ V.vm = .none ∧ Z.vm.findClass "[B" = some V.cls ∧ V.slots.size = A.slots.size ∧ ∀ j, j < A.slots.size → V.slots[j]? = some (.int (lo8 (cv A j)))) ∧
  ∀ (O n d : String) (w : Value), RoadKit.Fld Z h x O n d w → RoadKit.slotOf Z O n d ≠ RoadKit.slotOf Z ST "value" "[B" → RoadKit.slotOf Z O n d ≠ RoadKit.slotOf Z ST "coder" "B" → RoadKit.Fld Z h' x O n d w
/-- **new String(chars) AT A CALL, IN THE ROAD'S FORM**: for specialBack behind newO: x the fresh String, b the char[] with the cell A -/
theorem back {p : Program} {l : Launch} {e : Env} {R : Room} {s : State} {args : Array Value} {below : List Frame} {len W : Nat} {Z : State} {a0 : Array Value} {h : Heap} (hZ : Z.Warmed39 s.vm) (hw : ∀ d ∈ words, d.before a0 Z = true) {kI : Nat} (wi : (Jvm.Cond.instantiable ST kI).before a0 Z = true)
    {x b : Addr} {A : Cell} {z : Int32} {v0 c0 : Value} (E : RoadKit.Exa Z h x ST) (V : RoadKit.Fld Z h x ST "value" "[B" v0) (C : RoadKit.Fld Z h x ST "coder" "B" c0) (K : RoadKit.Arr Z h b A .char) (hty : Typed .char A) (S : RoadKit.Sta Z h ST "COMPACT_STRINGS" "Z" (.int z)) (hz : ¬ z = 0)
    (l0 : 0 < A.slots.size) (l2 : A.slots.size ≤ 536870912) (hp : ∀ i, i < A.slots.size → ¬ 255 < cv A i) (hfr : 4 ≤ R.frames) (hlo : W + 65 ≤ R.locals) :
    Back l R p e below s args New1.yN len W (fun P a => a = #[.ref x, .ref b] ∧ P.U.heap = h ∧ P.cells + 1 ≤ R.cells ∧ P.slots + A.slots.size ≤ R.slots)
      (fun P _ v B => ∃ L, Q Z x A h v B.U.heap L ∧ B.locs = P.locs ++ L ∧ B.cells = P.cells + 1 ∧ B.slots = P.slots + A.slots.size) := by
  intro m meth c P g ig mk a X hg hsize hdg hW hn hp'
  obtain ⟨rfl, rfl, r1, r2⟩ := hp'
  have al : Z.vm.Alike P.U.vm := hZ.alike.trans X.warmed.alike
  obtain ⟨D, cfV, kV, iV, fV, hD, gV, stV, knV, obV, asV, slV⟩ := id V
  obtain ⟨D', cfC, kC, iC, fC, hD', gC, stC, -, -, asC, slC⟩ := id C
  cases hD.symm.trans hD'
  obtain ⟨D2, kD, e1, e2, e3, e4, e5⟩ := id E
  cases hD.symm.trans e1
  obtain ⟨c2, k2, i1, i2, i3, -⟩ := Cond.instantiable_spec wi
  cases e2.symm.trans i1
  cases e3.symm.trans i2
  obtain ⟨kU, u1, u2⟩ := al.2.2 _ _ e3
  have hB : Blank ST x D P.U := ⟨hD, ⟨knV, fun q hq => by rw [hq] at obV; cases obV⟩, by rw [al.findClass]; exact e2, kU, u1, by rw [u2]; exact i3, by rw [u2]; exact e5 i3⟩
  have F1 : Found ST "value" "[B" fV P.U := ⟨SBG.found_only al ⟨cfV, kV, iV, gV⟩, stV⟩
  have F2 : Found ST "coder" "B" fC P.U := ⟨SBG.found_only al ⟨cfC, kC, iC, gC⟩, stC⟩
  have hA : Ch b A P.U := ⟨⟨K.1, State.isArrayOf_alike al K.2.1, K.2.2, by omega⟩, hty⟩
  have hS : StaticIs P.U ST "COMPACT_STRINGS" "Z" (.int z) := by
    obtain ⟨cfS, iS, kS, fS, st, cS, t1, t2, t3, t4, t5, t6, t7⟩ := S
    exact StaticIs.there (s := { Z with heap := P.U.heap }) ⟨cfS, iS, kS, fS, st, cS, t1, t2, t3, t4, t5, (fun q => by rw [q] at t6; cases t6), t7⟩ al rfl
  obtain ⟨v, B, X', ⟨⟨hv, E', V', q1, q2, q3, q4, q5, q6, q7, q8, q9, q10, q11⟩, hl, hc, hs⟩, st⟩ := New1.pays x D fV fC b A z (tab_of (moved hZ hw)) hfr hlo m meth c P g ig mk _ X hg hsize hdg hW hn ⟨r1, r2, rfl, hB, F1, F2, hA, hS, hz, l0, l2, hp⟩
  have al' : Z.vm.Alike B.U.vm := hZ.alike.trans X'.warmed.alike
  have hsz : E'.slots.size = D.slots.size := by
    obtain ⟨-, -, -, kB, w1, w2, w3⟩ := q1
    obtain ⟨kB', y1, y2⟩ := al'.2.2 _ _ e3
    rw [q2.2.1] at w1
    cases w1.symm.trans y1
    rw [w3, e5 i3, y2]
  refine ⟨v, B, X', ⟨_, ⟨hv, ?_, ⟨by omega, fun y cy hy hn' => q10 y cy (by simpa using hn') hy, fun y cy hy => ?_⟩, q11, ⟨E', _, q1.1, by rw [q2.2.1]; exact e2, by rw [q2.2.1]; exact e3, by rw [q2.1]; exact obV, fun _ => by rw [hsz]; exact e5 i3⟩,
    ⟨E', cfV, kV, iV, fV, q1.1, gV, stV, by rw [q2.1]; exact knV, by rw [q2.1]; exact obV, by rw [q2.2.1]; exact asV, q3⟩, ⟨E', cfC, kC, iC, fC, q1.1, gC, stC, by rw [q2.1]; exact knV, by rw [q2.1]; exact obV, by rw [q2.2.1]; exact asC, q4⟩,
    ⟨V', ⟨q5.1, State.isArrayOf_alike al'.symm q5.2.1, q5.2.2.1⟩, q6, by rw [← al'.findClass]; exact q7, q8, fun j hj => by have := q9 j hj; rwa [Nat.zero_add] at this⟩, fun O n d w F n1 n2 => ?_⟩, hl, hc, hs⟩, st⟩
  · intro y hy
    simp only [List.mem_cons, List.not_mem_nil, or_false] at hy
    rcases hy with rfl | rfl <;> rfl
  · by_cases q : y = x
    · subst q
      cases hD.symm.trans hy
      exact ⟨E', q1.1, q2.2.1, q2.1, hsz⟩
    · exact ⟨cy, q10 y cy q hy, rfl, rfl, rfl⟩
  · obtain ⟨D3, cf, k, i, f, g1, g2, g3, g4, g5, g6, g7⟩ := F
    cases hD.symm.trans g1
    simp only [RoadKit.slotOf, g2, gV, gC, Option.map_some, Option.getD_some] at n1 n2
    exact ⟨E', cf, k, i, f, q1.1, g2, g3, by rw [q2.1]; exact g4, by rw [q2.1]; exact g5, by rw [q2.2.1]; exact g6, by rw [q2.2.2 f.slot (by simp [n1, n2])]; exact g7⟩
end StrChars.Road
namespace StrChars.Road
open Jvm Sem ClassFile Op Lib Jvm.Stand Jvm.Free Jvm.Free.XT
/-- WHAT COMES BACK, the byte[] as a list of values -/
def QA (Z : State) (x : Addr) (zn : Int32) (cs : List Int32) (h : Heap) (v : Option Value) (h' : Heap) (L : List Loc) : Prop := v = none ∧ (∀ y ∈ L, y.base = x) ∧ RoadKit.Keep h h' [x] ∧ h'.size = h.size + 1 ∧ RoadKit.Exa Z h' x ST ∧ RoadKit.Fld Z h' x ST "value" "[B" (.ref h.size) ∧ RoadKit.Fld Z h' x ST "coder" "B" (.int 0) ∧
  (∃ kb, Z.vm.findClass "[B" = some kb ∧ RoadKit.Arv Z h' h.size kb .byte zn (cs.map fun c => .int (lo8 c)) (.int 0)) ∧
  ∀ (O n d : String) (w : Value), RoadKit.Fld Z h x O n d w → RoadKit.slotOf Z O n d ≠ RoadKit.slotOf Z ST "value" "[B" → RoadKit.slotOf Z O n d ≠ RoadKit.slotOf Z ST "coder" "B" → RoadKit.Fld Z h' x O n d w
/-- **new String(chars) AT A CALL, THE ARRAYS AS LISTS**: the char[] at b holds cs, not empty, no char above 255 -/
theorem backArv {p : Program} {l : Launch} {e : Env} {R : Room} {s : State} {args : Array Value} {below : List Frame} {len W : Nat} {Z : State} {a0 : Array Value} {h : Heap} (hZ : Z.Warmed39 s.vm) (hw : ∀ d ∈ words, d.before a0 Z = true) {kI : Nat} (wi : (Jvm.Cond.instantiable ST kI).before a0 Z = true)
    {x b : Addr} {k : ClassId} {zn z : Int32} {cs : List Int32} {dv v0 c0 : Value} (E : RoadKit.Exa Z h x ST) (V : RoadKit.Fld Z h x ST "value" "[B" v0) (C : RoadKit.Fld Z h x ST "coder" "B" c0) (K : RoadKit.Arv Z h b k .char zn (cs.map Value.int) dv) (S : RoadKit.Sta Z h ST "COMPACT_STRINGS" "Z" (.int z)) (hz : ¬ z = 0)
    (hlen : zn.toNatClampNeg = cs.length) (h0 : 0 < cs.length) (hbig : cs.length ≤ 536870912) (hall : ∀ c ∈ cs, ¬ 255 < c) (hfr : 4 ≤ R.frames) (hlo : W + 65 ≤ R.locals) :
    Back l R p e below s args New1.yN len W (fun P a => a = #[.ref x, .ref b] ∧ P.U.heap = h ∧ P.cells + 1 ≤ R.cells ∧ P.slots + cs.length ≤ R.slots)
      (fun P _ v B => ∃ L, QA Z x zn cs h v B.U.heap L ∧ B.locs = P.locs ++ L ∧ B.cells = P.cells + 1 ∧ B.slots = P.slots + cs.length) := by
  obtain ⟨A, K1, K2, K3, K4, K5, K6⟩ := K
  have e : A.slots.size = cs.length := K3.trans hlen
  have hat : ∀ (i : Nat) (hi : i < cs.length), A.slots[i]? = some (.int cs[i]) := fun i hi => by rw [K5 i (by omega)]; simp [List.getD_eq_getElem?_getD, hi]
  have hcv : ∀ (i : Nat) (hi : i < cs.length), cv A i = cs[i] := fun i hi => by unfold cv; rw [hat i hi]
  have hty : Typed .char A := fun i v hv => by
    have hi : i < A.slots.size := (Array.getElem?_eq_some_iff.mp hv).1
    have q := K5 i hi
    rw [hv] at q
    rw [Option.some.inj q]
    exact K6 i hi
  refine Back.mono (back hZ hw wi E V C K1 hty S hz (by omega) (by omega) (fun i hi => by rw [hcv i (by omega)]; exact hall _ (List.getElem_mem _)) hfr hlo) (fun P a hp => ⟨hp.1, hp.2.1, hp.2.2.1, by rw [e]; exact hp.2.2.2⟩) (fun P a v B hp hq => ?_)
  obtain ⟨L, ⟨q1, q2, q3, q4, q5, q6, q7, ⟨V', v1, v2, v3, v4, v5⟩, q9⟩, hl, hc, hs⟩ := hq
  refine ⟨L, ⟨q1, q2, q3, q4, q5, q6, q7, ⟨V'.cls, v3, V', v1, rfl, by rw [v4, e, hlen], K4, fun i hi => ?_, fun i hi => ?_⟩, q9⟩, hl, hc, by rw [hs, e]⟩
  · have hi' : i < cs.length := by omega
    rw [v5 i (by omega), hcv i hi']; simp [List.getD_eq_getElem?_getD, hi']
  · have hi' : i < cs.length := by omega
    simp only [List.getD_eq_getElem?_getD, List.getElem?_map, List.getElem?_eq_getElem hi', Option.map_some, Option.getD_some]
    exact fits_lo8 _
end StrChars.Road
namespace StrChars.Road
open Jvm Sem ClassFile Op Lib Jvm.Stand Jvm.Free Jvm.Free.XT
/-- WHAT COMES BACK, in the writer's own shape -/
def QV (Z : State) (x : Addr) (N : Int32) (bs : List Int32) (h : Heap) (n0 : Nat) (v : Option Value) (h' : Heap) (L : List Loc) : Prop := v = none ∧ RoadKit.Fr n0 L ∧ RoadKit.Keep h h' [x] ∧ RoadKit.Exa Z h' x ST ∧ RoadKit.Fld Z h' x ST "coder" "B" (.int 0) ∧
  ∃ (t : Addr) (kb : ClassId), n0 ≤ t ∧ h.size ≤ t ∧ ¬ t = x ∧ RoadKit.Fld Z h' x ST "value" "[B" (.ref t) ∧ RoadKit.Arv Z h' t kb .byte N (bs.map Value.int) (.int 0)
/-- **new String(chars) AT A CALL, FOR THE WRITER**: a char[] of n known ints, each 0 to 255 -/
theorem backV {p : Program} {l : Launch} {e : Env} {R : Room} {s : State} {args : Array Value} {below : List Frame} {len W : Nat} {Z : State} {a0 : Array Value} {h : Heap} (hZ : Z.Warmed39 s.vm) (hw : ∀ d ∈ words, d.before a0 Z = true) {kI : Nat} (wi : (Jvm.Cond.instantiable ST kI).before a0 Z = true)
    {x b : Addr} {kC : ClassId} {cs bs : List Int32} {d v0 c0 : Value} {z N : Int32} {n n0 : Nat} (hx0 : n0 ≤ x) (hh0 : n0 ≤ h.size) (E : RoadKit.Exa Z h x ST) (V : RoadKit.Fld Z h x ST "value" "[B" v0) (C : RoadKit.Fld Z h x ST "coder" "B" c0) (K : RoadKit.Arv Z h b kC .char N (cs.map Value.int) d) (S : RoadKit.Sta Z h ST "COMPACT_STRINGS" "Z" (.int z)) (hz : ¬ z = 0)
    (hn : cs.length = n) (hN : N = Int32.ofNat n) (l0 : 0 < n) (l2 : n ≤ 4000) (hp : ∀ c ∈ cs, ¬ c < 0 ∧ ¬ (255 : Int32) < c) (hb : bs = cs.map (fun c => c.toInt8.toInt32)) (hfr : 4 ≤ R.frames) (hlo : W + 65 ≤ R.locals) :
    Back l R p e below s args (⟨"java/lang/String", "<init>", "([C)V"⟩ : MethodName) len W (fun P a => a = #[.ref x, .ref b] ∧ P.U.heap = h ∧ P.cells + 1 ≤ R.cells ∧ P.slots + n ≤ R.slots)
      (fun P _ v B => ∃ L, QV Z x N bs h n0 v B.U.heap L ∧ B.locs = P.locs ++ L ∧ B.cells = P.cells + 1 ∧ B.slots = P.slots + n) := by
  subst hn hN hb
  refine Back.mono (backArv hZ hw wi E V C K S hz (n32 (by omega)) l0 (by omega) (fun c hc => (hp c hc).2) hfr hlo) (fun P a hp => hp) (fun P a v B hp hq => ?_)
  obtain ⟨L, ⟨q1, q2, q3, q4, q5, q6, q7, ⟨kb, v1, v2⟩, q9⟩, hl, hc, hs⟩ := hq
  exact ⟨L, ⟨q1, fun y hy => by rw [q2 y hy]; exact hx0, q3, q5, q7, h.size, kb, hh0, Nat.le_refl _, Nat.ne_of_gt E.lt, q6, by rw [List.map_map]; exact v2⟩, hl, hc, hs⟩
end StrChars.Road
end Jvm.Pilot.@@N@@
namespace Jvm.Pilot.@@N@@
open Jvm Jvm.ClassFile Sem Op Lib Jvm.Free Jvm.Stand Jvm.LawKit Jvm.RoadKit Bundle Jvm.Pilot.@@N@@.Jvm.D
theorem own_w {Z : State} {a0 : Array Value} {d : Jvm.Cond} (hw : ∀ d ∈ tables_1, d.before a0 Z = true) (i : Nat) (h : tables_1[i]? = some d) : d.before a0 Z = true := hw d (List.mem_of_getElem? h)
section OwnKit
variable {p : Program} {l : Launch} {e : Env} {R : Room} {s : State} {m : MethodId} {args : Array Value} {below : List Frame} {meth : Method} {c : Code} {T : State} {locs : List Loc} {cells slots : Nat}
/-- the run from S comes to an end of which Q holds -/
def own_Go (p : Program) (e : Env) (below : List Frame) (Q : Outcome → State → Prop) (S : State) : Prop := ∃ s₂ o, Steps p.tables e below S s₂ ∧ s₂.status = .running ∧ Ended s₂ below o ∧ Q o s₂
theorem own_via {Q : Outcome → State → Prop} {A B : State} (h : ∀ t, Steps p.tables e below B t → Steps p.tables e below A t) (g : own_Go p e below Q B) : own_Go p e below Q A := by
  obtain ⟨s2, o, h1, r⟩ := g
  exact ⟨s2, o, h _ h1, r⟩
theorem own_seq {Q : Outcome → State → Prop} {A B : State} (h : own_Go p e below Q B → own_Go p e below Q A) (k : own_Go p e below Q B) : own_Go p e below Q A := h k
theorem own_cast {Q : Outcome → State → Prop} {g g' : JFrame} (q : g = g') (k : own_Go p e below Q (T.setTop g')) : own_Go p e below Q (T.setTop g) := q ▸ k
theorem own_keep_mono {h0 h : Heap} {ws ws' : List Addr} (K : Keep h0 h ws) (q : ∀ x ∈ ws, x ∈ ws') : Keep h0 h ws' := ⟨K.1, fun x c a b => K.2.1 x c a fun z => b (q x z), K.2.2⟩
theorem own_ret0 {Qv : Option Value → Heap → List Loc → Prop} {kc ks : Nat} (X : Stand p l e R s m args below meth c T locs cells slots) (hlocks : meth.locks = false) (hx : p.tables.exec = Jvm.exec) {pc : Nat} {Ls : Array Slot} (hret : meth.sig.returnType = none) (hd : decode c.code pc = .ok (.return_, 1)) (hk : cells ≤ kc) (hs : slots ≤ ks) (hQ : Qv none T.heap locs) :
    own_Go p e below (fun o U' => ∃ v L, o = .returned v ∧ Qv v U'.heap L ∧ FrameEnd s o U' L kc ks) (T.setTop (mkF m pc Ls [])) := by
  obtain ⟨fs, hr, hrun, hended, hW, hsame⟩ := X.leave (v := none) (fun _ => rfl) hlocks
  exact ⟨_, _, X.returnOut hx hret hd hr, hrun, hended, _, _, rfl, hQ, ⟨_, rfl⟩, hW, hsame.mono hk hs⟩
theorem own_retv {Qv : Option Value → Heap → List Loc → Prop} {kc ks : Nat} (X : Stand p l e R s m args below meth c T locs cells slots) (hlocks : meth.locks = false) (hx : p.tables.exec = Jvm.exec) {pc : Nat} {Ls : Array Slot} {w : Value} {t : FieldType} {i : Instr} {rest : List Value} (hret : meth.sig.returnType = some t) (hn : narrow t w = w)
    (hi : (i = .ireturn ∧ (t = .int ∨ t = .boolean ∨ t = .byte ∨ t = .char ∨ t = .short) ∧ ∃ z, w = .int z) ∨ (i = .lreturn ∧ t = .long ∧ ∃ z, w = .long z) ∨ (i = .dreturn ∧ t = .double ∧ ∃ z, w = .double z) ∨ (i = .freturn ∧ t = .float ∧ ∃ z, w = .float z) ∨ (i = .areturn ∧ t.isReference = true ∧ w.isRef = true))
    (hd : decode c.code pc = .ok (i, 1)) (hk : cells ≤ kc) (hs : slots ≤ ks) (hQ : Qv (some w) T.heap locs) :
    own_Go p e below (fun o U' => ∃ v L, o = .returned v ∧ Qv v U'.heap L ∧ FrameEnd s o U' L kc ks) (T.setTop (mkF m pc Ls (w :: rest))) := by
  obtain ⟨fs, hr, hrun, hended, hW, hsame⟩ := X.leave (v := some w) (fun h => by rw [hret] at h; cases h) hlocks
  exact ⟨_, _, retOut X hx hret hn hi hd hr, hrun, hended, _, _, rfl, hQ, ⟨_, rfl⟩, hW, hsame.mono hk hs⟩
theorem own_pop2L {tb : Tables} [Ours tb] {e : Env} {below : List Frame} {T target : State} {m : MethodId} {c : Code} {g : JFrame} (h : At T m c below) (hx : tb.exec = Jvm.exec) (hg : g.method = m) {x : Int64} {rest : List Value} (hd : decode c.code g.pc = .ok (.pop2, 1)) (hs : g.stack = .long x :: rest)
    (hr : Steps tb e below (T.setTop { g with pc := g.pc + 1, stack := rest }) target) : Steps tb e below (T.setTop g) target := by
  subst hg
  jvm_step h [h.top, hx, hd, hs, Value.category]
  exact hr
theorem own_narR {t : FieldType} {w : Value} (h : w.isRef = true) : narrow t w = w := by
  rcases ref_cases h with rfl | ⟨y, rfl⟩ <;> cases t <;> rfl
theorem own_fitR {C : String} {w : Value} (h : w.isRef = true) : fits (.object C) w = true := by
  rcases ref_cases h with rfl | ⟨y, rfl⟩ <;> rfl
theorem own_fitA {t : FieldType} {w : Value} (h : w.isRef = true) : fits (.array t) w = true := by
  rcases ref_cases h with rfl | ⟨y, rfl⟩ <;> rfl
end OwnKit

section OwnCold
variable {p : Program} {l : Launch} {e : Env} {R : Room} {s : State} {m : MethodId} {args : Array Value} {below : List Frame} {meth : Method} {c : Code} {T : State} {locs : List Loc} {cells slots : Nat} {Z : State} {a0 : Array Value} {h : Heap}
/-- a callee that may load a String constant for the first time; J: a word on the tables at its start; Q speaks of the tables at its end too -/
theorem own_backS {y : MethodName} {bytes : ByteArray} {maxL : Nat} {ret : Option FieldType} {rm : Room} {len W : Nat} {as' : Array Value} {J : Vm → Prop} {Q : Option Value → Heap → List Loc → Vm → Prop}
    (hM : MetFree l y (head1 [Cond.code y bytes maxL ret] rm) (fun a U => a = as' ∧ Z.Warmed39 U.vm ∧ U.heap = h ∧ J U.vm) (fun _ _ _ _ _ => True) (fun _ U o U' => ∃ v L, o = .returned v ∧ Q v U'.heap L U'.vm ∧ ReturnedEndW U o U' L rm.cells rm.slots))
    (hZ : Z.Warmed39 s.vm) (wc : (Cond.code y bytes maxL ret).before a0 Z = true) (wz : (Cond.initialized y.cls).before a0 Z = true) (hf : rm.frames + 1 ≤ R.frames) (hl : W + (maxL + 11) + rm.locals ≤ R.locals) :
    BackS l R p e below s args y len W (fun A a => a = as' ∧ A.U.heap = h ∧ J A.U.vm ∧ A.cells + rm.cells ≤ R.cells ∧ A.slots + rm.slots ≤ R.slots)
      (fun A _ v B => ∃ L, Q v B.U.heap L B.U.vm ∧ B.locs = A.locs ++ L ∧ B.cells = A.cells + rm.cells ∧ B.slots = A.slots + rm.slots) := by
  refine BackS.of_freeW (bytes := bytes) (maxL := maxL) (ret := ret) (E := fun _ _ o t L k n => k = rm.cells ∧ n = rm.slots ∧ ∃ v, o = .returned v ∧ Q v t.heap L t.vm) hM hf hl ?_ ?_ ?_ ?_ ?_
  · intro m meth c A a Y hp
    have hU : Z.Warmed39 A.U.vm := wtrans hZ Y.warmed
    refine ⟨?_, mv hU wc, mv hU wz, hp.2.2.2.1, hp.2.2.2.2⟩
    show (Cond.and _ .tt).before a A.U = true
    rw [Cond.before_and, mv hU wc]; rfl
  · intro m meth c A a g mk Y hp
    exact ⟨hp.1, wtrans hZ Y.warmed, hp.2.1, hp.2.2.1⟩
  · intros; trivial
  · rintro _ _ _ _ ⟨v, L, h1, h2, h3⟩
    exact ⟨L, _, _, h3, rfl, rfl, v, h1, h2⟩
  · rintro m meth c A a g mk v t L k n Y hp - - ⟨e1, e2, v', e3, e4⟩
    cases e3; subst e1 e2
    exact ⟨L, e4, rfl, rfl, rfl⟩
theorem own_ret0W {Qv : Option Value → Heap → List Loc → Vm → Prop} {kc ks : Nat} {vm0 : Vm} {k0 : Nat} (X : Stand p l e R (s.setVm vm0) m args below meth c T locs cells slots) (hS : s.Since vm0 k0) (hk0 : k0 ≤ T.heap.size) (hlocks : meth.locks = false) (hx : p.tables.exec = Jvm.exec) {pc : Nat} {Ls : Array Slot} (hret : meth.sig.returnType = none) (hd : decode c.code pc = .ok (.return_, 1)) (hk : cells ≤ kc) (hs : slots ≤ ks) (hQ : Qv none T.heap locs T.vm) :
    own_Go p e below (fun o U' => ∃ v L, o = .returned v ∧ Qv v U'.heap L U'.vm ∧ ReturnedEndW s o U' L kc ks) (T.setTop (mkF m pc Ls [])) := by
  obtain ⟨fs, hr, hrun, hended, hE⟩ := X.leaveW hS hk0 (v := none) (fun _ => rfl) hlocks
  exact ⟨_, _, X.returnOut hx hret hd hr, hrun, hended, _, _, rfl, hQ, hE.1, hE.2.1, hE.2.2.1, hE.2.2.2.mono hk hs⟩
theorem own_retvW {Qv : Option Value → Heap → List Loc → Vm → Prop} {kc ks : Nat} {vm0 : Vm} {k0 : Nat} (X : Stand p l e R (s.setVm vm0) m args below meth c T locs cells slots) (hS : s.Since vm0 k0) (hk0 : k0 ≤ T.heap.size) (hlocks : meth.locks = false) (hx : p.tables.exec = Jvm.exec) {pc : Nat} {Ls : Array Slot} {w : Value} {t : FieldType} {i : Instr} {rest : List Value} (hret : meth.sig.returnType = some t) (hn : narrow t w = w)
    (hi : (i = .ireturn ∧ (t = .int ∨ t = .boolean ∨ t = .byte ∨ t = .char ∨ t = .short) ∧ ∃ z, w = .int z) ∨ (i = .lreturn ∧ t = .long ∧ ∃ z, w = .long z) ∨ (i = .dreturn ∧ t = .double ∧ ∃ z, w = .double z) ∨ (i = .freturn ∧ t = .float ∧ ∃ z, w = .float z) ∨ (i = .areturn ∧ t.isReference = true ∧ w.isRef = true))
    (hd : decode c.code pc = .ok (i, 1)) (hk : cells ≤ kc) (hs : slots ≤ ks) (hQ : Qv (some w) T.heap locs T.vm) :
    own_Go p e below (fun o U' => ∃ v L, o = .returned v ∧ Qv v U'.heap L U'.vm ∧ ReturnedEndW s o U' L kc ks) (T.setTop (mkF m pc Ls (w :: rest))) := by
  obtain ⟨fs, hr, hrun, hended, hE⟩ := X.leaveW hS hk0 (v := some w) (fun h => by rw [hret] at h; cases h) hlocks
  exact ⟨_, _, retOut X hx hret hn hi hd hr, hrun, hended, _, _, rfl, hQ, hE.1, hE.2.1, hE.2.2.1, hE.2.2.2.mono hk hs⟩
end OwnCold

theorem own_wS {Z : State} {a0 : Array Value} (hw : ∀ d ∈ tables_1, d.before a0 Z = true) : ∀ a ∈ Bundle.stringAtoms, a.before a0 Z = true := by
  intro d hd
  simp only [Bundle.stringAtoms, List.mem_cons, List.not_mem_nil, or_false] at hd
  rcases hd with rfl | rfl | rfl | rfl | rfl | rfl | rfl
  · exact (own_w hw 3 rfl)
  · exact (own_w hw 2 rfl)
  · exact (own_w hw 19 rfl)
  · exact (own_w hw 29 rfl)
  · exact (own_w hw 27 rfl)
  · exact (own_w hw 78 rfl)
  · exact (own_w hw 79 rfl)
theorem own_hwords {Z : State} {a0 : Array Value} (hw : ∀ d ∈ tables_1, d.before a0 Z = true) : ∀ d ∈ StrChars.Road.words, d.before a0 Z = true := fun d hd => hw d ((by decide +kernel : ∀ d ∈ StrChars.Road.words, d ∈ tables_1) d hd)
theorem own_chars (x : Int32) : ¬ nar .char ((x &&& (255 : Int32)).toUInt32.toUInt16.toUInt32.toInt32) < 0 ∧ ¬ (255 : Int32) < nar .char ((x &&& (255 : Int32)).toUInt32.toUInt16.toUInt32.toInt32) := by
  have t : ∀ k : Fin 256, ¬ nar .char ((Int32.ofNat k.val).toUInt32.toUInt16.toUInt32.toInt32) < 0 ∧ ¬ (255 : Int32) < nar .char ((Int32.ofNat k.val).toUInt32.toUInt16.toUInt32.toInt32) := by decide +kernel
  have h : (x &&& 255).toBitVec.toNat < 256 := by
    simp only [Int32.toBitVec_and, BitVec.toNat_and]
    exact Nat.lt_succ_of_le Nat.and_le_right
  have e : (x &&& 255) = Int32.ofNat (x &&& 255).toBitVec.toNat := by
    apply Int32.toBitVec_inj.mp
    show _ = BitVec.ofNat 32 _
    rw [BitVec.ofNat_toNat]; simp
  rw [e]
  exact t ⟨_, h⟩
theorem own_byte (x : Int32) : ¬ ((255 : Int32) < ((x &&& (255 : Int32)).toUInt32.toUInt16.toUInt32.toInt32)) := by
  have t : ∀ k : Fin 256, ¬ (255 : Int32) < ((Int32.ofNat k.val).toUInt32.toUInt16.toUInt32.toInt32) := by decide +kernel
  have h : (x &&& 255).toBitVec.toNat < 256 := by
    simp only [Int32.toBitVec_and, BitVec.toNat_and]
    exact Nat.lt_succ_of_le Nat.and_le_right
  have e : (x &&& 255) = Int32.ofNat (x &&& 255).toBitVec.toNat := by
    apply Int32.toBitVec_inj.mp
    show _ = BitVec.ofNat 32 _
    rw [BitVec.ofNat_toNat]; simp
  rw [e]
  exact t ⟨_, h⟩

theorem d8_0 : decode jdk_43_method_3_code 0 = .ok (.iload_n 0, 1) := by decide +kernel
theorem d8_1 : decode jdk_43_method_3_code 1 = .ok (.sipush 255, 3) := by decide +kernel
theorem d8_4 : decode jdk_43_method_3_code 4 = .ok (.if_icmp .gt 7, 3) := by decide +kernel
theorem d8_7 : decode jdk_43_method_3_code 7 = .ok (.iconst 1, 1) := by decide +kernel
theorem d8_8 : decode jdk_43_method_3_code 8 = .ok (.goto 4, 3) := by decide +kernel
theorem d8_11 : decode jdk_43_method_3_code 11 = .ok (.iconst 0, 1) := by decide +kernel
theorem d8_12 : decode jdk_43_method_3_code 12 = .ok (.ireturn, 1) := by decide +kernel
theorem pn_java_lang_StringLatin1 : plainName "java/lang/StringLatin1" = true := by first | (simp [plainName, overriddenIn]; done) | decide +kernel
theorem ef_canEncode (m : MethodId) (p1 : Int32) : entryFrame m #[(.int p1)] 1 = mkF m 0 #[.val (.int p1)] [] := by first | (simp [entryFrame, mkF, argsToLocals, Value.category]; done) | rfl
def QcanEncode (Z : State) (p1 : Int32) (h0 : Heap) (n0 : Nat) (v : Option Value) (h : Heap) (L : List Loc) : Prop := v = some (.int (1 : Int32)) ∧ Fr n0 L ∧ Keep h0 h []
set_option maxRecDepth 65536 in
set_option maxHeartbeats 40000000 in
theorem rmcanEncode (l : Launch) (Z : State) (a0 : Array Value) (hw : ∀ d ∈ tables_1, d.before a0 Z = true) (ws : List Jvm.Cond) (p1 : Int32) (h0 : Heap) (n0 : Nat) (Z0 : n0 ≤ h0.size) (hp : ¬ ((255 : Int32) < p1)) :
    MetFree l (⟨"java/lang/StringLatin1", "canEncode", "(C)Z"⟩ : MethodName) (head1 (Jvm.Cond.code (⟨"java/lang/StringLatin1", "canEncode", "(C)Z"⟩ : MethodName) jdk_43_method_3_code 1 (some .boolean) :: ws) ({ frames := 0, cells := 0, slots := 0, locals := 0 } : Room)) (fun a U => a = #[(.int p1)] ∧ Z.Warmed39 U.vm ∧ U.heap = h0) (fun _ _ _ _ _ => True) (fun _ U o U' => ∃ v L, o = .returned v ∧ QcanEncode Z p1 h0 n0 v U'.heap L ∧ FrameEnd U o U' L ({ frames := 0, cells := 0, slots := 0, locals := 0 } : Room).cells ({ frames := 0, cells := 0, slots := 0, locals := 0 } : Room).slots) := by
  refine MetFree.of_bodySF (plainFor_of_name pn_java_lang_StringLatin1) hisR ?_
  intro p e s m args below meth c s₁ Bd hml0 hP hK
  obtain ⟨rfl, hZ, hH0⟩ := hP
  have hx := Bd.exec
  have hby := Bd.bytes
  have hml : c.maxLocals = 1 := hml0
  have hown : s.vm.findClass "java/lang/StringLatin1" = some m.cls := findClass_of_methodNamed Bd.named
  have hnm := (name_of_methodNamed Bd.named Bd.method).1
  have X0 : Stand p l e ({ frames := 0, cells := 0, slots := 0, locals := 0 } : Room) s m #[(.int p1)] below meth c s₁ [] 0 0 := Stand.of_body Bd
  have e0 : s₁.heap = h0 := by rw [← hH0, Bd.state]; rfl
  have N0 := Fr.nil n0
  refine own_cast (ef_canEncode m p1) ?_
  show own_Go p e below (fun o U' => ∃ v L, o = .returned v ∧ QcanEncode Z p1 h0 n0 v U'.heap L ∧ FrameEnd s o U' L ({ frames := 0, cells := 0, slots := 0, locals := 0 } : Room).cells ({ frames := 0, cells := 0, slots := 0, locals := 0 } : Room).slots) (s₁.setTop (mkF m 0 #[.val (.int p1)] []))
  refine own_via (fun _ => XS.iloadN X0.here hx rfl (hb hby d8_0) rfl) ?_
  show own_Go p e below _ (s₁.setTop (mkF m 1 #[.val (.int p1)] [(.int p1)]))
  refine own_via (fun _ => XS.sipush X0.here hx rfl (hb hby d8_1)) ?_
  show own_Go p e below _ (s₁.setTop (mkF m 4 #[.val (.int p1)] [(.int (255 : Int32)), (.int p1)]))
  refine own_via (fun _ => XS.icmpNo X0.here hx rfl (hb hby d8_4) rfl (flt (hp : ¬ ((255 : Int32) < p1))).2.2.1) ?_
  show own_Go p e below _ (s₁.setTop (mkF m 7 #[.val (.int p1)] []))
  refine own_via (fun _ => XS.iconst X0.here hx rfl (hb hby d8_7)) ?_
  show own_Go p e below _ (s₁.setTop (mkF m 8 #[.val (.int p1)] [(.int (1 : Int32))]))
  refine own_via (fun _ => XS.goto X0.here hx rfl (pc0 := 8) (pc' := 12) rfl (hb hby d8_8) (by decide) (by decide)) ?_
  show own_Go p e below _ (s₁.setTop (mkF m 12 #[.val (.int p1)] [(.int (1 : Int32))]))
  exact own_retv X0 Bd.notSynchronized hx Bd.returns rfl (Or.inl ⟨rfl, (by simp), _, rfl⟩) (hb hby d8_12) (by decide) (by decide) (by rw [e0]; exact ⟨rfl, N0, (Keep.refl h0 [])⟩)
theorem d9_0 : decode jdk_43_method_46_code 0 = .ok (.iconst 1, 1) := by decide +kernel
theorem d9_1 : decode jdk_43_method_46_code 1 = .ok (.newarray .byte, 2) := by decide +kernel
theorem d9_3 : decode jdk_43_method_46_code 3 = .ok (.dup, 1) := by decide +kernel
theorem d9_4 : decode jdk_43_method_46_code 4 = .ok (.iconst 0, 1) := by decide +kernel
theorem d9_5 : decode jdk_43_method_46_code 5 = .ok (.iload_n 0, 1) := by decide +kernel
theorem d9_6 : decode jdk_43_method_46_code 6 = .ok (.i2b, 1) := by decide +kernel
theorem d9_7 : decode jdk_43_method_46_code 7 = .ok (.bastore, 1) := by decide +kernel
theorem d9_8 : decode jdk_43_method_46_code 8 = .ok (.areturn, 1) := by decide +kernel
theorem ef_toBytes (m : MethodId) (p1 : Int32) : entryFrame m #[(.int p1)] 1 = mkF m 0 #[.val (.int p1)] [] := by first | (simp [entryFrame, mkF, argsToLocals, Value.category]; done) | rfl
def QtoBytes (Z : State) (p1 : Int32) (h0 : Heap) (n0 : Nat) (v : Option Value) (h : Heap) (L : List Loc) : Prop := ∃ r : Addr, ∃ k : ClassId, v = some (.ref r) ∧ Fr n0 L ∧ Keep h0 h [] ∧ (h0.size ≤ r) ∧ (Arv Z h r k .byte (1 : Int32) [(.int (nar .byte (p1.toInt8.toInt32)))] (.int (0 : Int32)))
set_option maxRecDepth 65536 in
set_option maxHeartbeats 40000000 in
theorem rmtoBytes (l : Launch) (Z : State) (a0 : Array Value) (hw : ∀ d ∈ tables_1, d.before a0 Z = true) (ws : List Jvm.Cond) (p1 : Int32) (h0 : Heap) (n0 : Nat) (Z0 : n0 ≤ h0.size) :
    MetFree l (⟨"java/lang/StringLatin1", "toBytes", "(C)[B"⟩ : MethodName) (head1 (Jvm.Cond.code (⟨"java/lang/StringLatin1", "toBytes", "(C)[B"⟩ : MethodName) jdk_43_method_46_code 1 (some (.array .byte)) :: ws) ({ frames := 0, cells := 1, slots := 1, locals := 0 } : Room)) (fun a U => a = #[(.int p1)] ∧ Z.Warmed39 U.vm ∧ U.heap = h0) (fun _ _ _ _ _ => True) (fun _ U o U' => ∃ v L, o = .returned v ∧ QtoBytes Z p1 h0 n0 v U'.heap L ∧ FrameEnd U o U' L ({ frames := 0, cells := 1, slots := 1, locals := 0 } : Room).cells ({ frames := 0, cells := 1, slots := 1, locals := 0 } : Room).slots) := by
  refine MetFree.of_bodySF (plainFor_of_name pn_java_lang_StringLatin1) hisR ?_
  intro p e s m args below meth c s₁ Bd hml0 hP hK
  obtain ⟨rfl, hZ, hH0⟩ := hP
  have hx := Bd.exec
  have hby := Bd.bytes
  have hml : c.maxLocals = 1 := hml0
  have hown : s.vm.findClass "java/lang/StringLatin1" = some m.cls := findClass_of_methodNamed Bd.named
  have hnm := (name_of_methodNamed Bd.named Bd.method).1
  have X0 : Stand p l e ({ frames := 0, cells := 1, slots := 1, locals := 0 } : Room) s m #[(.int p1)] below meth c s₁ [] 0 0 := Stand.of_body Bd
  have e0 : s₁.heap = h0 := by rw [← hH0, Bd.state]; rfl
  have N0 := Fr.nil n0
  refine own_cast (ef_toBytes m p1) ?_
  show own_Go p e below (fun o U' => ∃ v L, o = .returned v ∧ QtoBytes Z p1 h0 n0 v U'.heap L ∧ FrameEnd s o U' L ({ frames := 0, cells := 1, slots := 1, locals := 0 } : Room).cells ({ frames := 0, cells := 1, slots := 1, locals := 0 } : Room).slots) (s₁.setTop (mkF m 0 #[.val (.int p1)] []))
  refine own_via (fun _ => XS.iconst X0.here hx rfl (hb hby d9_0)) ?_
  show own_Go p e below _ (s₁.setTop (mkF m 1 #[.val (.int p1)] [(.int (1 : Int32))]))
  obtain ⟨T_1, h_1, k_1, X_1, e_1, E_1, A_1, st_1⟩ := newP X0 hx hZ (own_w hw 19 rfl) e0 (g := (mkF m 1 #[.val (.int p1)] [(.int (1 : Int32))])) rfl (hb hby d9_1) rfl (by decide) (cap := 1) (by decide) (by decide) (by decide) (by decide)
  obtain ⟨b_1, g_1⟩ : ∃ z, z = h0.size := ⟨_, rfl⟩
  rw [← g_1] at A_1 st_1
  have V_1 : Arv Z h_1 b_1 k_1 .byte (1 : Int32) [(.int (0 : Int32))] (.int (0 : Int32)) := (Arv.new A_1 (by decide)).pad (pad_rep [] (.int (0 : Int32)) 1)
  refine own_via st_1 ?_
  show own_Go p e below _ (T_1.setTop (mkF m 3 #[.val (.int p1)] [(.ref b_1)]))
  refine own_via (fun _ => XS.dup X_1.here hx rfl (hb hby d9_3) rfl rfl) ?_
  show own_Go p e below _ (T_1.setTop (mkF m 4 #[.val (.int p1)] [(.ref b_1), (.ref b_1)]))
  refine own_via (fun _ => XS.iconst X_1.here hx rfl (hb hby d9_4)) ?_
  show own_Go p e below _ (T_1.setTop (mkF m 5 #[.val (.int p1)] [(.int (0 : Int32)), (.ref b_1), (.ref b_1)]))
  refine own_via (fun _ => XS.iloadN X_1.here hx rfl (hb hby d9_5) rfl) ?_
  show own_Go p e below _ (T_1.setTop (mkF m 6 #[.val (.int p1)] [(.int p1), (.int (0 : Int32)), (.ref b_1), (.ref b_1)]))
  refine own_via (fun _ => XS.i2b X_1.here hx rfl (hb hby d9_6) rfl) ?_
  show own_Go p e below _ (T_1.setTop (mkF m 7 #[.val (.int p1)] [(.int (p1.toInt8.toInt32)), (.int (0 : Int32)), (.ref b_1), (.ref b_1)]))
  obtain ⟨cl_2, Ar_2, q_2, S_2, M_2, H_2, G_2⟩ := V_1
  obtain ⟨T_2, h_2, X_2, e_2, W_2, st_2⟩ := stB X_1 hx hZ e_1 Ar_2 (j := (0 : Int32)) (inb_of S_2 ⟨by decide, by decide⟩) (g := (mkF m 7 #[.val (.int p1)] [(.int (p1.toInt8.toInt32)), (.int (0 : Int32)), (.ref b_1), (.ref b_1)])) rfl rfl (hb hby d9_7)
  have V_2 : Arv Z h_2 b_1 k_1 .byte (1 : Int32) [(.int (nar .byte (p1.toInt8.toInt32)))] (.int (0 : Int32)) := Arv.set Ar_2 q_2 S_2 M_2 H_2 G_2 (fits_nar_byte _) W_2 0 rfl (Nat.le_of_ble_eq_true rfl)
  have N_2 := Fr.snoc X_2 N0 (Nat.le_trans Z0 (Nat.le_of_eq g_1.symm))
  refine own_via st_2 ?_
  show own_Go p e below _ (T_2.setTop (mkF m 8 #[.val (.int p1)] [(.ref b_1)]))
  have K_3 : Keep h0 h_1 [] := (Keep.refl h0 []).ext E_1
  have K_4 : Keep h0 h_2 [] := Keep.wr (ws := []) K_3 W_2 (Or.inr (Nat.le_of_eq g_1.symm))
  exact own_retv X_2 Bd.notSynchronized hx Bd.returns rfl (Or.inr (Or.inr (Or.inr (Or.inr ⟨rfl, rfl, rfl⟩)))) (hb hby d9_8) (by decide) (by decide) (by rw [e_2]; exact ⟨b_1, k_1, rfl, N_2, K_4, (Nat.le_of_eq g_1.symm), V_2⟩)
theorem d10_0 : decode jdk_42_method_151_code 0 = .ok (.aload_n 0, 1) := by decide +kernel
theorem d10_1 : decode jdk_42_method_151_code 1 = .ok (.invokespecial 1, 3) := by decide +kernel
theorem d10_4 : decode jdk_42_method_151_code 4 = .ok (.aload_n 0, 1) := by decide +kernel
theorem d10_5 : decode jdk_42_method_151_code 5 = .ok (.aload_n 1, 1) := by decide +kernel
theorem d10_6 : decode jdk_42_method_151_code 6 = .ok (.putfield 9, 3) := by decide +kernel
theorem d10_9 : decode jdk_42_method_151_code 9 = .ok (.aload_n 0, 1) := by decide +kernel
theorem d10_10 : decode jdk_42_method_151_code 10 = .ok (.iload_n 2, 1) := by decide +kernel
theorem d10_11 : decode jdk_42_method_151_code 11 = .ok (.putfield 15, 3) := by decide +kernel
theorem d10_14 : decode jdk_42_method_151_code 14 = .ok (.return_, 1) := by decide +kernel
theorem pd_0 : parseMethodDescriptor "()V" = some ⟨[], none⟩ := by decide +kernel
theorem pn_java_lang_String : plainName "java/lang/String" = true := by first | (simp [plainName, overriddenIn]; done) | decide +kernel
theorem ef_strBB (m : MethodId) (a1 : Addr) (a2 : Addr) : entryFrame m #[(.ref a1), (.ref a2), (.int (0 : Int32))] 3 = mkF m 0 #[.val (.ref a1), .val (.ref a2), .val (.int (0 : Int32))] [] := by first | (simp [entryFrame, mkF, argsToLocals, Value.category]; done) | rfl
def QstrBB (Z : State) (a1 : Addr) (a2 : Addr) (h0 : Heap) (n0 : Nat) (v : Option Value) (h : Heap) (L : List Loc) : Prop := v = none ∧ Fr n0 L ∧ Keep h0 h [a1] ∧ (Fld Z h a1 "java/lang/String" "value" "[B" (.ref a2)) ∧ (Fld Z h a1 "java/lang/String" "coder" "B" (.int (0 : Int32)))
set_option maxRecDepth 65536 in
set_option maxHeartbeats 40000000 in
theorem rmstrBB (l : Launch) (Z : State) (a0 : Array Value) (hw : ∀ d ∈ tables_1, d.before a0 Z = true) (ws : List Jvm.Cond) (a1 : Addr) (a2 : Addr) (h0 : Heap) (n0 : Nat) (Z0 : n0 ≤ h0.size) (E1 : Exa Z h0 a1 "java/lang/String") (F1 : Fld Z h0 a1 "java/lang/String" "value" "[B" .null) (F2 : Fld Z h0 a1 "java/lang/String" "coder" "B" (.int (0 : Int32))) (g1 : n0 ≤ a1) :
    MetFree l (⟨"java/lang/String", "<init>", "([BB)V"⟩ : MethodName) (head1 (Jvm.Cond.code (⟨"java/lang/String", "<init>", "([BB)V"⟩ : MethodName) jdk_42_method_151_code 3 none :: ws) ({ frames := 1, cells := 0, slots := 0, locals := 12 } : Room)) (fun a U => a = #[(.ref a1), (.ref a2), (.int (0 : Int32))] ∧ Z.Warmed39 U.vm ∧ U.heap = h0) (fun _ _ _ _ _ => True) (fun _ U o U' => ∃ v L, o = .returned v ∧ QstrBB Z a1 a2 h0 n0 v U'.heap L ∧ FrameEnd U o U' L ({ frames := 1, cells := 0, slots := 0, locals := 12 } : Room).cells ({ frames := 1, cells := 0, slots := 0, locals := 12 } : Room).slots) := by
  refine MetFree.of_bodySF (plainFor_of_name pn_java_lang_String) hisR ?_
  intro p e s m args below meth c s₁ Bd hml0 hP hK
  obtain ⟨rfl, hZ, hH0⟩ := hP
  have hx := Bd.exec
  have hby := Bd.bytes
  have hml : c.maxLocals = 3 := hml0
  have hown : s.vm.findClass "java/lang/String" = some m.cls := findClass_of_methodNamed Bd.named
  have hnm := (name_of_methodNamed Bd.named Bd.method).1
  have X0 : Stand p l e ({ frames := 1, cells := 0, slots := 0, locals := 12 } : Room) s m #[(.ref a1), (.ref a2), (.int (0 : Int32))] below meth c s₁ [] 0 0 := Stand.of_body Bd
  have e0 : s₁.heap = h0 := by rw [← hH0, Bd.state]; rfl
  have N0 := Fr.nil n0
  refine own_cast (ef_strBB m a1 a2) ?_
  show own_Go p e below (fun o U' => ∃ v L, o = .returned v ∧ QstrBB Z a1 a2 h0 n0 v U'.heap L ∧ FrameEnd s o U' L ({ frames := 1, cells := 0, slots := 0, locals := 12 } : Room).cells ({ frames := 1, cells := 0, slots := 0, locals := 12 } : Room).slots) (s₁.setTop (mkF m 0 #[.val (.ref a1), .val (.ref a2), .val (.int (0 : Int32))] []))
  refine own_via (fun _ => XS.aloadN X0.here hx rfl (hb hby d10_0) rfl rfl) ?_
  show own_Go p e below _ (s₁.setTop (mkF m 1 #[.val (.ref a1), .val (.ref a2), .val (.int (0 : Int32))] [(.ref a1)]))
  obtain ⟨T_1, X_1, e_1, st_1⟩ := initO X0 hx hZ hown (own_w hw 11 rfl) (own_w hw 12 rfl) (own_w hw 13 rfl) e0 (g := (mkF m 1 #[.val (.ref a1), .val (.ref a2), .val (.int (0 : Int32))] [(.ref a1)])) rfl (by rw [hml]; rfl) rfl (hb hby d10_1) (by decide) (W := 0) (by show 2 * 0 + _ ≤ _; exact Nat.le_of_eq rfl) (by decide)
  refine own_via st_1 ?_
  show own_Go p e below _ (T_1.setTop (mkF m 4 #[.val (.ref a1), .val (.ref a2), .val (.int (0 : Int32))] []))
  refine own_via (fun _ => XS.aloadN X_1.here hx rfl (hb hby d10_4) rfl rfl) ?_
  show own_Go p e below _ (T_1.setTop (mkF m 5 #[.val (.ref a1), .val (.ref a2), .val (.int (0 : Int32))] [(.ref a1)]))
  refine own_via (fun _ => XS.aloadN X_1.here hx rfl (hb hby d10_5) rfl rfl) ?_
  show own_Go p e below _ (T_1.setTop (mkF m 6 #[.val (.ref a1), .val (.ref a2), .val (.int (0 : Int32))] [(.ref a2), (.ref a1)]))
  obtain ⟨T_2, h_2, X_2, e_2, W_2, st_2⟩ := putF X_1 hx hZ hown (host := "") (Or.inl (own_w hw 28 rfl)) Via.refl e_1 F1 E1 (Or.inr ⟨(own_w hw 29 rfl), rfl, hnm⟩) (own_w hw 2 rfl) (ty := (.array .byte)) (by decide) rfl rfl (g := (mkF m 6 #[.val (.ref a1), .val (.ref a2), .val (.int (0 : Int32))] [(.ref a2), (.ref a1)])) rfl rfl (hb hby d10_6)
  have F_3 : Fld Z h_2 a1 "java/lang/String" "coder" "B" (.int (0 : Int32)) := F2.other W_2 (Or.inr (slot_ne (Or.inr (own_w hw 27 rfl)) (Or.inr (own_w hw 29 rfl)) (by decide) (t := .byte) (t' := (.array .byte)) (by decide) (by decide)))
  have F_4 : Fld Z h_2 a1 "java/lang/String" "value" "[B" (.ref a2) := F1.same W_2
  have N_2 := Fr.snoc X_2 N0 g1
  refine own_via st_2 ?_
  show own_Go p e below _ (T_2.setTop (mkF m 9 #[.val (.ref a1), .val (.ref a2), .val (.int (0 : Int32))] []))
  refine own_via (fun _ => XS.aloadN X_2.here hx rfl (hb hby d10_9) rfl rfl) ?_
  show own_Go p e below _ (T_2.setTop (mkF m 10 #[.val (.ref a1), .val (.ref a2), .val (.int (0 : Int32))] [(.ref a1)]))
  refine own_via (fun _ => XS.iloadN X_2.here hx rfl (hb hby d10_10) rfl) ?_
  show own_Go p e below _ (T_2.setTop (mkF m 11 #[.val (.ref a1), .val (.ref a2), .val (.int (0 : Int32))] [(.int (0 : Int32)), (.ref a1)]))
  have K_5 : Keep h0 h_2 [a1] := Keep.wr (ws := [a1]) (own_keep_mono (Keep.refl h0 []) (by simp)) W_2 (Or.inl (List.mem_of_getElem? (i := 0) rfl))
  obtain ⟨T_6, h_6, X_6, e_6, W_6, st_6⟩ := putFN X_2 hx hZ hown (own_w hw 26 rfl) Via.refl e_2 F_3 (E1.keep K_5) (Or.inr ⟨(own_w hw 27 rfl), rfl, hnm⟩) (own_w hw 2 rfl) (ty := .byte) (v' := (.int (0 : Int32))) (by decide) rfl rfl (g := (mkF m 11 #[.val (.ref a1), .val (.ref a2), .val (.int (0 : Int32))] [(.int (0 : Int32)), (.ref a1)])) rfl rfl (hb hby d10_11)
  have F_7 : Fld Z h_6 a1 "java/lang/String" "value" "[B" (.ref a2) := F_4.other W_6 (Or.inr (slot_ne (Or.inr (own_w hw 29 rfl)) (Or.inr (own_w hw 27 rfl)) (by decide) (t := (.array .byte)) (t' := .byte) (by decide) (by decide)))
  have F_8 : Fld Z h_6 a1 "java/lang/String" "coder" "B" (.int (0 : Int32)) := F_3.same W_6
  have N_6 := Fr.snoc X_6 N_2 g1
  refine own_via st_6 ?_
  show own_Go p e below _ (T_6.setTop (mkF m 14 #[.val (.ref a1), .val (.ref a2), .val (.int (0 : Int32))] []))
  have K_9 : Keep h0 h_6 [a1] := Keep.wr (ws := [a1]) K_5 W_6 (Or.inl (List.mem_of_getElem? (i := 0) rfl))
  exact own_ret0 X_6 Bd.notSynchronized hx Bd.returns (hb hby d10_14) (by decide) (by decide) (by rw [e_6]; exact ⟨rfl, N_6, K_9, F_7, F_8⟩)
theorem d7_0 : decode jdk_42_method_139_code 0 = .ok (.getstatic 38, 3) := by decide +kernel
theorem d7_3 : decode jdk_42_method_139_code 3 = .ok (.ifCond .eq 23, 3) := by decide +kernel
theorem d7_6 : decode jdk_42_method_139_code 6 = .ok (.iload_n 0, 1) := by decide +kernel
theorem d7_7 : decode jdk_42_method_139_code 7 = .ok (.invokestatic 1015, 3) := by decide +kernel
theorem d7_10 : decode jdk_42_method_139_code 10 = .ok (.ifCond .eq 16, 3) := by decide +kernel
theorem d7_13 : decode jdk_42_method_139_code 13 = .ok (.new 10, 3) := by decide +kernel
theorem d7_16 : decode jdk_42_method_139_code 16 = .ok (.dup, 1) := by decide +kernel
theorem d7_17 : decode jdk_42_method_139_code 17 = .ok (.iload_n 0, 1) := by decide +kernel
theorem d7_18 : decode jdk_42_method_139_code 18 = .ok (.invokestatic 1018, 3) := by decide +kernel
theorem d7_21 : decode jdk_42_method_139_code 21 = .ok (.iconst 0, 1) := by decide +kernel
theorem d7_22 : decode jdk_42_method_139_code 22 = .ok (.invokespecial 209, 3) := by decide +kernel
theorem d7_25 : decode jdk_42_method_139_code 25 = .ok (.areturn, 1) := by decide +kernel
theorem d7_26 : decode jdk_42_method_139_code 26 = .ok (.new 10, 3) := by decide +kernel
theorem d7_29 : decode jdk_42_method_139_code 29 = .ok (.dup, 1) := by decide +kernel
theorem d7_30 : decode jdk_42_method_139_code 30 = .ok (.iload_n 0, 1) := by decide +kernel
theorem d7_31 : decode jdk_42_method_139_code 31 = .ok (.invokestatic 1021, 3) := by decide +kernel
theorem d7_34 : decode jdk_42_method_139_code 34 = .ok (.iconst 1, 1) := by decide +kernel
theorem d7_35 : decode jdk_42_method_139_code 35 = .ok (.invokespecial 209, 3) := by decide +kernel
theorem d7_38 : decode jdk_42_method_139_code 38 = .ok (.areturn, 1) := by decide +kernel
theorem pd_1 : parseMethodDescriptor "(C)Z" = some ⟨[.char], some .boolean⟩ := by decide +kernel
theorem pd_2 : parseMethodDescriptor "(C)[B" = some ⟨[.char], some (.array .byte)⟩ := by decide +kernel
theorem pd_3 : parseMethodDescriptor "([BB)V" = some ⟨[(.array .byte), .byte], none⟩ := by decide +kernel
theorem ef_valueOf (m : MethodId) (p1 : Int32) : entryFrame m #[(.int p1)] 1 = mkF m 0 #[.val (.int p1)] [] := by first | (simp [entryFrame, mkF, argsToLocals, Value.category]; done) | rfl
def QvalueOf (Z : State) (p1 : Int32) (cs : Int32) (h0 : Heap) (n0 : Nat) (v : Option Value) (h : Heap) (L : List Loc) : Prop := ∃ r : Addr, ∃ t : Addr, ∃ k : ClassId, v = some (.ref r) ∧ Fr n0 L ∧ Keep h0 h [] ∧ (h0.size ≤ r) ∧ (Exa Z h r "java/lang/String") ∧ (Fld Z h r "java/lang/String" "coder" "B" (.int (0 : Int32))) ∧ (Fld Z h r "java/lang/String" "value" "[B" (.ref t)) ∧ (h0.size ≤ t) ∧ (Arv Z h t k .byte (1 : Int32) [(.int (nar .byte (p1.toInt8.toInt32)))] (.int (0 : Int32)))
set_option maxRecDepth 65536 in
set_option maxHeartbeats 40000000 in
theorem rmvalueOf (l : Launch) (Z : State) (a0 : Array Value) (hw : ∀ d ∈ tables_1, d.before a0 Z = true) (ws : List Jvm.Cond) (p1 : Int32) (cs : Int32) (h0 : Heap) (n0 : Nat) (Z0 : n0 ≤ h0.size) (O0 : Old Z n0 h0) (Scs : Sta Z Z.heap "java/lang/String" "COMPACT_STRINGS" "Z" (.int cs)) (hcs : ¬ (cs = (0 : Int32))) (hp : ¬ ((255 : Int32) < p1)) :
    MetFree l (⟨"java/lang/String", "valueOf", "(C)Ljava/lang/String;"⟩ : MethodName) (head1 (Jvm.Cond.code (⟨"java/lang/String", "valueOf", "(C)Ljava/lang/String;"⟩ : MethodName) jdk_42_method_139_code 1 (some (.object "java/lang/String")) :: ws) ({ frames := 2, cells := 2, slots := 5, locals := 27 } : Room)) (fun a U => a = #[(.int p1)] ∧ Z.Warmed39 U.vm ∧ U.heap = h0) (fun _ _ _ _ _ => True) (fun _ U o U' => ∃ v L, o = .returned v ∧ QvalueOf Z p1 cs h0 n0 v U'.heap L ∧ FrameEnd U o U' L ({ frames := 2, cells := 2, slots := 5, locals := 27 } : Room).cells ({ frames := 2, cells := 2, slots := 5, locals := 27 } : Room).slots) := by
  refine MetFree.of_bodySF (plainFor_of_name pn_java_lang_String) hisR ?_
  intro p e s m args below meth c s₁ Bd hml0 hP hK
  obtain ⟨rfl, hZ, hH0⟩ := hP
  have hx := Bd.exec
  have hby := Bd.bytes
  have hml : c.maxLocals = 1 := hml0
  have hown : s.vm.findClass "java/lang/String" = some m.cls := findClass_of_methodNamed Bd.named
  have hnm := (name_of_methodNamed Bd.named Bd.method).1
  have X0 : Stand p l e ({ frames := 2, cells := 2, slots := 5, locals := 27 } : Room) s m #[(.int p1)] below meth c s₁ [] 0 0 := Stand.of_body Bd
  have e0 : s₁.heap = h0 := by rw [← hH0, Bd.state]; rfl
  have N0 := Fr.nil n0
  refine own_cast (ef_valueOf m p1) ?_
  show own_Go p e below (fun o U' => ∃ v L, o = .returned v ∧ QvalueOf Z p1 cs h0 n0 v U'.heap L ∧ FrameEnd s o U' L ({ frames := 2, cells := 2, slots := 5, locals := 27 } : Room).cells ({ frames := 2, cells := 2, slots := 5, locals := 27 } : Room).slots) (s₁.setTop (mkF m 0 #[.val (.int p1)] []))
  obtain ⟨T_1, X_1, e_1, st_1⟩ := getS2 X0 hx hZ hown (host := "") (Or.inl (own_w hw 14 rfl)) Via.refl e0 (Scs.ext O0.2) (g := (mkF m 0 #[.val (.int p1)] [])) rfl (hb hby d7_0)
  refine own_via st_1 ?_
  show own_Go p e below _ (T_1.setTop (mkF m 3 #[.val (.int p1)] [(.int cs)]))
  refine own_via (fun _ => XS.ifNo X_1.here hx rfl (hb hby d7_3) rfl ((if0 _ _).trans (feq (hcs : ¬ (cs = (0 : Int32)))).1)) ?_
  show own_Go p e below _ (T_1.setTop (mkF m 6 #[.val (.int p1)] []))
  refine own_via (fun _ => XS.iloadN X_1.here hx rfl (hb hby d7_6) rfl) ?_
  show own_Go p e below _ (T_1.setTop (mkF m 7 #[.val (.int p1)] [(.int p1)]))
  obtain ⟨_, _, ⟨T_2, L_2, k_2, n_2⟩, -, X_2, ⟨Lc_2, hQ_2, l_2, y_2, z_2⟩, st_2⟩ := Jvm.LawKit.callS X_1 hx (y := (⟨"java/lang/StringLatin1", "canEncode", "(C)Z"⟩ : MethodName)) hown (mvT hZ (own_w hw 33 rfl)) (mvT hZ (own_w hw 34 rfl)) (mvT hZ (own_w hw 35 rfl)) (mvT hZ (own_w hw 36 rfl)) (by decide) (backOf (W := 0) (rmcanEncode l Z a0 hw [] p1 h0 n0 Z0 hp) hZ (own_w hw 36 rfl) (own_w hw 35 rfl) (by decide) (by decide)) (g := (mkF m 7 #[.val (.int p1)] [(.int p1)])) rfl (by rw [hml]; rfl) (argsL := [(.int p1)]) (rest := []) (lenOf pd_1 rfl) rfl (by show 2 * 0 + _ ≤ _; exact Nat.le_of_eq rfl) (hb hby d7_7) (fun _ _ => ⟨rfl, e_1, (by decide : 0 + 0 ≤ _), (by decide : 0 + 0 ≤ _)⟩)
  dsimp only [Pt.U, Pt.locs, Pt.cells, Pt.slots] at X_2 l_2 y_2 z_2 st_2 hQ_2
  subst l_2 y_2 z_2
  obtain ⟨rfl, Nq_2, K_2q⟩ := hQ_2
  have N_2 := Fr.app N0 Nq_2
  refine own_via st_2 ?_
  show own_Go p e below _ (T_2.setTop (mkF m 10 #[.val (.int p1)] [(.int (1 : Int32))]))
  refine own_via (fun _ => XS.ifNo X_2.here hx rfl (hb hby d7_10) rfl ((if0 _ _).trans (feq ((by decide) : ¬ ((1 : Int32) = (0 : Int32)))).1)) ?_
  show own_Go p e below _ (T_2.setTop (mkF m 13 #[.val (.int p1)] []))
  obtain ⟨T_3, h_3, X_3, e_3, E_3, A_3, D_3, -, st_3⟩ := newO X_2 hx hZ hown (own_w hw 37 rfl) (own_w hw 2 rfl) (own_w hw 3 rfl) rfl (g := (mkF m 13 #[.val (.int p1)] [])) rfl (hb hby d7_13) (by decide) (by decide)
  obtain ⟨b_3, g_3⟩ : ∃ z, z = T_2.heap.size := ⟨_, rfl⟩
  rw [← g_3] at A_3 D_3 st_3
  have F_4 : Fld Z h_3 b_3 "java/lang/String" "coder" "B" (.int (0 : Int32)) := D_3 (Or.inr (own_w hw 27 rfl)) (ty := .byte) (by decide)
  have F_5 : Fld Z h_3 b_3 "java/lang/String" "value" "[B" .null := D_3 (Or.inr (own_w hw 29 rfl)) (ty := (.array .byte)) (by decide)
  refine own_via st_3 ?_
  show own_Go p e below _ (T_3.setTop (mkF m 16 #[.val (.int p1)] [(.ref b_3)]))
  refine own_via (fun _ => XS.dup X_3.here hx rfl (hb hby d7_16) rfl rfl) ?_
  show own_Go p e below _ (T_3.setTop (mkF m 17 #[.val (.int p1)] [(.ref b_3), (.ref b_3)]))
  refine own_via (fun _ => XS.iloadN X_3.here hx rfl (hb hby d7_17) rfl) ?_
  show own_Go p e below _ (T_3.setTop (mkF m 18 #[.val (.int p1)] [(.int p1), (.ref b_3), (.ref b_3)]))
  have K_6 : Keep h0 T_2.heap [] := Keep.trans (ws := []) (Keep.refl h0 []) K_2q all0
  have K_7 : Keep h0 h_3 [] := K_6.ext E_3
  obtain ⟨_, _, ⟨T_8, L_8, k_8, n_8⟩, -, X_8, ⟨Lc_8, hQ_8, l_8, y_8, z_8⟩, st_8⟩ := Jvm.LawKit.callS X_3 hx (y := (⟨"java/lang/StringLatin1", "toBytes", "(C)[B"⟩ : MethodName)) hown (mvT hZ (own_w hw 38 rfl)) (mvT hZ (own_w hw 39 rfl)) (mvT hZ (own_w hw 35 rfl)) (mvT hZ (own_w hw 40 rfl)) (by decide) (backOf (W := 2) (rmtoBytes l Z a0 hw [] p1 h_3 n0 (Nat.le_trans Z0 K_7.1) ) hZ (own_w hw 40 rfl) (own_w hw 35 rfl) (by decide) (by decide)) (g := (mkF m 18 #[.val (.int p1)] [(.int p1), (.ref b_3), (.ref b_3)])) rfl (by rw [hml]; rfl) (argsL := [(.int p1)]) (rest := [(.ref b_3), (.ref b_3)]) (lenOf pd_2 rfl) rfl (by show 2 * 0 + _ ≤ _; exact Nat.le_of_eq rfl) (hb hby d7_18) (fun _ _ => ⟨rfl, e_3, (by decide : 1 + 1 ≤ _), (by decide : 4 + 1 ≤ _)⟩)
  dsimp only [Pt.U, Pt.locs, Pt.cells, Pt.slots] at X_8 l_8 y_8 z_8 st_8 hQ_8
  subst l_8 y_8 z_8
  obtain ⟨r_9, u_10, rfl, Nq_8, K_8q, q_8_0, q_8_1⟩ := hQ_8
  have N_8 := Fr.app N_2 Nq_8
  refine own_via st_8 ?_
  show own_Go p e below _ (T_8.setTop (mkF m 21 #[.val (.int p1)] [(.ref r_9), (.ref b_3), (.ref b_3)]))
  refine own_via (fun _ => XS.iconst X_8.here hx rfl (hb hby d7_21)) ?_
  show own_Go p e below _ (T_8.setTop (mkF m 22 #[.val (.int p1)] [(.int (0 : Int32)), (.ref r_9), (.ref b_3), (.ref b_3)]))
  have K_11 : Keep h_3 T_8.heap [] := Keep.trans (ws := []) (Keep.refl h_3 []) K_8q all0
  have K_12 : Keep h0 T_8.heap [] := Keep.trans (ws := []) K_7 K_8q all0
  obtain ⟨_, _, ⟨T_13, L_13, k_13, n_13⟩, -, X_13, ⟨Lc_13, hQ_13, l_13, y_13, z_13⟩, st_13⟩ := X_8.specialBack hx (y := (⟨"java/lang/String", "<init>", "([BB)V"⟩ : MethodName)) rfl hown (mvT hZ (own_w hw 41 rfl)) (mvT hZ (own_w hw 42 rfl)) (mvT hZ (own_w hw 43 rfl)) (by decide) (backOf (W := 1) (rmstrBB l Z a0 hw [] b_3 r_9 T_8.heap n0 (Nat.le_trans Z0 K_12.1) (A_3.keep K_11) (F_5.keep K_11 nin0) (F_4.keep K_11 nin0) (Nat.le_trans Z0 (Nat.le_trans K_6.1 (Nat.le_of_eq g_3.symm)))) hZ (own_w hw 43 rfl) (own_w hw 3 rfl) (by decide) (by decide)) (g := (mkF m 22 #[.val (.int p1)] [(.int (0 : Int32)), (.ref r_9), (.ref b_3), (.ref b_3)])) rfl (by rw [hml]; rfl) (Steps.refl _) (a := b_3) (argsL := [(.ref r_9), (.int (0 : Int32))]) (rest := [(.ref b_3)]) (lenOf pd_3 rfl) rfl (by show 2 * 0 + _ ≤ _; exact Nat.le_of_eq rfl) (hb hby d7_22) (fun _ _ => ⟨rfl, rfl, (by decide : 2 + 0 ≤ _), (by decide : 5 + 0 ≤ _)⟩)
  dsimp only [Pt.U, Pt.locs, Pt.cells, Pt.slots] at X_13 l_13 y_13 z_13 st_13 hQ_13
  subst l_13 y_13 z_13
  obtain ⟨rfl, Nq_13, K_13q, q_13_0, q_13_1⟩ := hQ_13
  have N_13 := Fr.app N_8 Nq_13
  refine own_via (fun _ k => st_13.trans k) ?_
  show own_Go p e below _ (T_13.setTop (mkF m 25 #[.val (.int p1)] [(.ref b_3)]))
  have K_14 : Keep h_3 T_13.heap [b_3] := Keep.trans (ws := [b_3]) (own_keep_mono K_11 (by simp)) K_13q (allS (Or.inl (List.mem_of_getElem? (i := 0) rfl)) all0)
  have K_15 : Keep T_8.heap T_13.heap [b_3] := Keep.trans (ws := [b_3]) (own_keep_mono (Keep.refl T_8.heap []) (by simp)) K_13q (allS (Or.inl (List.mem_of_getElem? (i := 0) rfl)) all0)
  have K_16 : Keep h0 T_13.heap [] := Keep.trans (ws := []) K_12 K_13q (allS (Or.inr (Nat.le_trans K_6.1 (Nat.le_of_eq g_3.symm))) all0)
  exact own_retv X_13 Bd.notSynchronized hx Bd.returns rfl (Or.inr (Or.inr (Or.inr (Or.inr ⟨rfl, rfl, rfl⟩)))) (hb hby d7_25) (by decide) (by decide) ⟨b_3, r_9, u_10, rfl, N_13, K_16, (Nat.le_trans K_6.1 (Nat.le_of_eq g_3.symm)), (A_3.keep K_14), q_13_1, q_13_0, (Nat.le_trans K_7.1 q_8_0), (q_8_1.keep K_15 (ninS (Ne.symm (Nat.ne_of_lt (Nat.lt_of_lt_of_le A_3.lt q_8_0))) nin0))⟩
theorem d13_0 : decode jdk_30_method_1_code 0 = .ok (.aload_n 0, 1) := by decide +kernel
theorem d13_1 : decode jdk_30_method_1_code 1 = .ok (.invokespecial 1, 3) := by decide +kernel
theorem d13_4 : decode jdk_30_method_1_code 4 = .ok (.return_, 1) := by decide +kernel
theorem pn_java_lang_Record : plainName "java/lang/Record" = true := by first | (simp [plainName, overriddenIn]; done) | decide +kernel
theorem ef_rec (m : MethodId) (a1 : Addr) : entryFrame m #[(.ref a1)] 1 = mkF m 0 #[.val (.ref a1)] [] := by first | (simp [entryFrame, mkF, argsToLocals, Value.category]; done) | rfl
def Qrec (Z : State) (a1 : Addr) (h0 : Heap) (n0 : Nat) (v : Option Value) (h : Heap) (L : List Loc) : Prop := v = none ∧ Fr n0 L ∧ Keep h0 h []
set_option maxRecDepth 65536 in
set_option maxHeartbeats 40000000 in
theorem rmrec (l : Launch) (Z : State) (a0 : Array Value) (hw : ∀ d ∈ tables_1, d.before a0 Z = true) (ws : List Jvm.Cond) (a1 : Addr) (h0 : Heap) (n0 : Nat) (Z0 : n0 ≤ h0.size) :
    MetFree l (⟨"java/lang/Record", "<init>", "()V"⟩ : MethodName) (head1 (Jvm.Cond.code (⟨"java/lang/Record", "<init>", "()V"⟩ : MethodName) jdk_30_method_1_code 1 none :: ws) ({ frames := 1, cells := 0, slots := 0, locals := 12 } : Room)) (fun a U => a = #[(.ref a1)] ∧ Z.Warmed39 U.vm ∧ U.heap = h0) (fun _ _ _ _ _ => True) (fun _ U o U' => ∃ v L, o = .returned v ∧ Qrec Z a1 h0 n0 v U'.heap L ∧ FrameEnd U o U' L ({ frames := 1, cells := 0, slots := 0, locals := 12 } : Room).cells ({ frames := 1, cells := 0, slots := 0, locals := 12 } : Room).slots) := by
  refine MetFree.of_bodySF (plainFor_of_name pn_java_lang_Record) hisR ?_
  intro p e s m args below meth c s₁ Bd hml0 hP hK
  obtain ⟨rfl, hZ, hH0⟩ := hP
  have hx := Bd.exec
  have hby := Bd.bytes
  have hml : c.maxLocals = 1 := hml0
  have hown : s.vm.findClass "java/lang/Record" = some m.cls := findClass_of_methodNamed Bd.named
  have hnm := (name_of_methodNamed Bd.named Bd.method).1
  have X0 : Stand p l e ({ frames := 1, cells := 0, slots := 0, locals := 12 } : Room) s m #[(.ref a1)] below meth c s₁ [] 0 0 := Stand.of_body Bd
  have e0 : s₁.heap = h0 := by rw [← hH0, Bd.state]; rfl
  have N0 := Fr.nil n0
  refine own_cast (ef_rec m a1) ?_
  show own_Go p e below (fun o U' => ∃ v L, o = .returned v ∧ Qrec Z a1 h0 n0 v U'.heap L ∧ FrameEnd s o U' L ({ frames := 1, cells := 0, slots := 0, locals := 12 } : Room).cells ({ frames := 1, cells := 0, slots := 0, locals := 12 } : Room).slots) (s₁.setTop (mkF m 0 #[.val (.ref a1)] []))
  refine own_via (fun _ => XS.aloadN X0.here hx rfl (hb hby d13_0) rfl rfl) ?_
  show own_Go p e below _ (s₁.setTop (mkF m 1 #[.val (.ref a1)] [(.ref a1)]))
  obtain ⟨T_1, X_1, e_1, st_1⟩ := initO X0 hx hZ hown (own_w hw 59 rfl) (own_w hw 12 rfl) (own_w hw 13 rfl) e0 (g := (mkF m 1 #[.val (.ref a1)] [(.ref a1)])) rfl (by rw [hml]; rfl) rfl (hb hby d13_1) (by decide) (W := 0) (by show 2 * 0 + _ ≤ _; exact Nat.le_of_eq rfl) (by decide)
  refine own_via st_1 ?_
  show own_Go p e below _ (T_1.setTop (mkF m 4 #[.val (.ref a1)] []))
  exact own_ret0 X_1 Bd.notSynchronized hx Bd.returns (hb hby d13_4) (by decide) (by decide) (by rw [e_1]; exact ⟨rfl, N0, (Keep.refl h0 [])⟩)
theorem d11_0 : decode method_2_code 0 = .ok (.iload_n 0, 1) := by decide +kernel
theorem d11_1 : decode method_2_code 1 = .ok (.ifCond .ne 5, 3) := by decide +kernel
theorem d11_4 : decode method_2_code 4 = .ok (.aconst_null, 1) := by decide +kernel
theorem d11_5 : decode method_2_code 5 = .ok (.areturn, 1) := by decide +kernel
theorem d11_6 : decode method_2_code 6 = .ok (.iload_n 0, 1) := by decide +kernel
theorem d11_7 : decode method_2_code 7 = .ok (.iconst 1, 1) := by decide +kernel
theorem d11_8 : decode method_2_code 8 = .ok (.if_icmp .ne 6, 3) := by decide +kernel
theorem d11_11 : decode method_2_code 11 = .ok (.ldc 7, 2) := by decide +kernel
theorem d11_13 : decode method_2_code 13 = .ok (.areturn, 1) := by decide +kernel
theorem d11_14 : decode method_2_code 14 = .ok (.iload_n 0, 1) := by decide +kernel
theorem d11_15 : decode method_2_code 15 = .ok (.iconst 2, 1) := by decide +kernel
theorem d11_16 : decode method_2_code 16 = .ok (.if_icmp .ne 5, 3) := by decide +kernel
theorem d11_19 : decode method_2_code 19 = .ok (.aload_n 1, 1) := by decide +kernel
theorem d11_20 : decode method_2_code 20 = .ok (.areturn, 1) := by decide +kernel
theorem d11_21 : decode method_2_code 21 = .ok (.aload_n 2, 1) := by decide +kernel
theorem d11_22 : decode method_2_code 22 = .ok (.areturn, 1) := by decide +kernel
theorem pn_com_example_jobwright_jobwright_NodeIsEndPinLaw : plainName "com/example/jobwright/jobwright/NodeIsEndPinLaw" = true := by first | (simp [plainName, overriddenIn]; done) | decide +kernel
theorem ef_pick (m : MethodId) (p1 : Int32) (a2 : Addr) (a3 : Addr) : entryFrame m #[(.int p1), (.ref a2), (.ref a3)] 3 = mkF m 0 #[.val (.int p1), .val (.ref a2), .val (.ref a3)] [] := by first | (simp [entryFrame, mkF, argsToLocals, Value.category]; done) | rfl
def Qpick (Z : State) (p1 : Int32) (a2 : Addr) (a3 : Addr) (h0 : Heap) (n0 : Nat) (v : Option Value) (h : Heap) (L : List Loc) (vm : Vm) : Prop := ∃ r : Value, v = some r ∧ Fr n0 L ∧ Keep h0 h [] ∧ (r.isRef = true) ∧ (r = .null ↔ p1 = (0 : Int32))
set_option maxRecDepth 65536 in
set_option maxHeartbeats 40000000 in
theorem rmpick (l : Launch) (Z : State) (a0 : Array Value) (hw : ∀ d ∈ tables_1, d.before a0 Z = true) (ws : List Jvm.Cond) (p1 : Int32) (a2 : Addr) (a3 : Addr) (h0 : Heap) (n0 : Nat) (Z0 : n0 ≤ h0.size) :
    MetFree l (⟨"com/example/jobwright/jobwright/NodeIsEndPinLaw", "pick", "(ILjava/lang/String;Ljava/lang/String;)Ljava/lang/String;"⟩ : MethodName) (head1 (Jvm.Cond.code (⟨"com/example/jobwright/jobwright/NodeIsEndPinLaw", "pick", "(ILjava/lang/String;Ljava/lang/String;)Ljava/lang/String;"⟩ : MethodName) method_2_code 3 (some (.object "java/lang/String")) :: ws) ({ frames := 0, cells := 2, slots := 4, locals := 0 } : Room)) (fun a U => a = #[(.int p1), (.ref a2), (.ref a3)] ∧ Z.Warmed39 U.vm ∧ U.heap = h0 ∧ True) (fun _ _ _ _ _ => True) (fun _ U o U' => ∃ v L, o = .returned v ∧ Qpick Z p1 a2 a3 h0 n0 v U'.heap L U'.vm ∧ ReturnedEndW U o U' L ({ frames := 0, cells := 2, slots := 4, locals := 0 } : Room).cells ({ frames := 0, cells := 2, slots := 4, locals := 0 } : Room).slots) := by
  refine MetFree.of_bodySF (plainFor_of_name pn_com_example_jobwright_jobwright_NodeIsEndPinLaw) hisR ?_
  intro p e s m args below meth c s₁ Bd hml0 hP hK
  obtain ⟨rfl, hZ, hH0, J0⟩ := hP
  have hx := Bd.exec
  have hby := Bd.bytes
  have hml : c.maxLocals = 3 := hml0
  have hown : s.vm.findClass "com/example/jobwright/jobwright/NodeIsEndPinLaw" = some m.cls := findClass_of_methodNamed Bd.named
  have hnm := (name_of_methodNamed Bd.named Bd.method).1
  have X0 : Stand p l e ({ frames := 0, cells := 2, slots := 4, locals := 0 } : Room) (s.setVm s.vm) m #[(.int p1), (.ref a2), (.ref a3)] below meth c s₁ [] 0 0 := Stand.of_body Bd
  have hS0 : s.Since s.vm 0 := (State.WarmedH.refl s).since 0
  have e0 : s₁.heap = h0 := by rw [← hH0, Bd.state]; rfl
  have N0 := Fr.nil n0
  refine own_cast (ef_pick m p1 a2 a3) ?_
  show own_Go p e below (fun o U' => ∃ v L, o = .returned v ∧ Qpick Z p1 a2 a3 h0 n0 v U'.heap L U'.vm ∧ ReturnedEndW s o U' L ({ frames := 0, cells := 2, slots := 4, locals := 0 } : Room).cells ({ frames := 0, cells := 2, slots := 4, locals := 0 } : Room).slots) (s₁.setTop (mkF m 0 #[.val (.int p1), .val (.ref a2), .val (.ref a3)] []))
  refine own_via (fun _ => XS.iloadN X0.here hx rfl (hb hby d11_0) rfl) ?_
  show own_Go p e below _ (s₁.setTop (mkF m 1 #[.val (.int p1), .val (.ref a2), .val (.ref a3)] [(.int p1)]))
  by_cases h1 : p1 = (0 : Int32)
  · refine own_via (fun _ => XS.ifNo X0.here hx rfl (hb hby d11_1) rfl ((if0 _ _).trans (teq (h1 : p1 = (0 : Int32))).2)) ?_
    show own_Go p e below _ (s₁.setTop (mkF m 4 #[.val (.int p1), .val (.ref a2), .val (.ref a3)] []))
    refine own_via (fun _ => XS.aconstNull X0.here hx rfl (hb hby d11_4)) ?_
    show own_Go p e below _ (s₁.setTop (mkF m 5 #[.val (.int p1), .val (.ref a2), .val (.ref a3)] [.null]))
    exact own_retvW X0 hS0 (by rw [e0]; exact (Nat.zero_le _)) Bd.notSynchronized hx Bd.returns rfl (Or.inr (Or.inr (Or.inr (Or.inr ⟨rfl, rfl, rfl⟩)))) (hb hby d11_5) (by decide) (by decide) (by rw [e0]; exact ⟨.null, rfl, N0, (Keep.refl h0 []), rfl, (by simp [h1])⟩)
  · refine own_via (fun _ => XS.ifYes X0.here hx rfl (pc0 := 1) (pc' := 6) rfl (hb hby d11_1) rfl ((if0 _ _).trans (feq (h1 : ¬ (p1 = (0 : Int32)))).2) (by decide) (by decide)) ?_
    show own_Go p e below _ (s₁.setTop (mkF m 6 #[.val (.int p1), .val (.ref a2), .val (.ref a3)] []))
    refine own_via (fun _ => XS.iloadN X0.here hx rfl (hb hby d11_6) rfl) ?_
    show own_Go p e below _ (s₁.setTop (mkF m 7 #[.val (.int p1), .val (.ref a2), .val (.ref a3)] [(.int p1)]))
    refine own_via (fun _ => XS.iconst X0.here hx rfl (hb hby d11_7)) ?_
    show own_Go p e below _ (s₁.setTop (mkF m 8 #[.val (.int p1), .val (.ref a2), .val (.ref a3)] [(.int (1 : Int32)), (.int p1)]))
    by_cases h2 : p1 = (1 : Int32)
    · refine own_via (fun _ => XS.icmpNo X0.here hx rfl (hb hby d11_8) rfl (teq (h2 : p1 = (1 : Int32))).2) ?_
      show own_Go p e below _ (s₁.setTop (mkF m 11 #[.val (.int p1), .val (.ref a2), .val (.ref a3)] []))
      obtain ⟨a_1, T_1, h_1, k_1, X_1, e_1, E_1, hS_1, hk_1, hZ_1, ho_1, st_1⟩ := ldcS X0 hx hZ hown (own_w hw 77 rfl) (own_wS hw) e0 hS0 (Nat.zero_le _) (g := (mkF m 11 #[.val (.int p1), .val (.ref a2), .val (.ref a3)] [])) rfl (hb hby d11_11) (n := 0) (by decide) (by decide) (by decide) (by decide)
      refine own_via st_1 ?_
      show own_Go p e below _ (T_1.setTop (mkF m 13 #[.val (.int p1), .val (.ref a2), .val (.ref a3)] [(.ref a_1)]))
      have K_2 : Keep h0 h_1 [] := (Keep.refl h0 []).ext E_1
      exact own_retvW X_1 hS_1 (by rw [e_1]; exact hk_1) Bd.notSynchronized hx Bd.returns rfl (Or.inr (Or.inr (Or.inr (Or.inr ⟨rfl, rfl, rfl⟩)))) (hb hby d11_13) (by decide) (by decide) (by rw [e_1]; exact ⟨(.ref a_1), rfl, N0, K_2, rfl, (by simp [h1])⟩)
    · refine own_via (fun _ => XS.icmpYes X0.here hx rfl (pc0 := 8) (pc' := 14) rfl (hb hby d11_8) rfl (feq (h2 : ¬ (p1 = (1 : Int32)))).2 (by decide) (by decide)) ?_
      show own_Go p e below _ (s₁.setTop (mkF m 14 #[.val (.int p1), .val (.ref a2), .val (.ref a3)] []))
      refine own_via (fun _ => XS.iloadN X0.here hx rfl (hb hby d11_14) rfl) ?_
      show own_Go p e below _ (s₁.setTop (mkF m 15 #[.val (.int p1), .val (.ref a2), .val (.ref a3)] [(.int p1)]))
      refine own_via (fun _ => XS.iconst X0.here hx rfl (hb hby d11_15)) ?_
      show own_Go p e below _ (s₁.setTop (mkF m 16 #[.val (.int p1), .val (.ref a2), .val (.ref a3)] [(.int (2 : Int32)), (.int p1)]))
      by_cases h3 : p1 = (2 : Int32)
      · refine own_via (fun _ => XS.icmpNo X0.here hx rfl (hb hby d11_16) rfl (teq (h3 : p1 = (2 : Int32))).2) ?_
        show own_Go p e below _ (s₁.setTop (mkF m 19 #[.val (.int p1), .val (.ref a2), .val (.ref a3)] []))
        refine own_via (fun _ => XS.aloadN X0.here hx rfl (hb hby d11_19) rfl rfl) ?_
        show own_Go p e below _ (s₁.setTop (mkF m 20 #[.val (.int p1), .val (.ref a2), .val (.ref a3)] [(.ref a2)]))
        exact own_retvW X0 hS0 (by rw [e0]; exact (Nat.zero_le _)) Bd.notSynchronized hx Bd.returns rfl (Or.inr (Or.inr (Or.inr (Or.inr ⟨rfl, rfl, rfl⟩)))) (hb hby d11_20) (by decide) (by decide) (by rw [e0]; exact ⟨(.ref a2), rfl, N0, (Keep.refl h0 []), rfl, (by simp [h1])⟩)
      · refine own_via (fun _ => XS.icmpYes X0.here hx rfl (pc0 := 16) (pc' := 21) rfl (hb hby d11_16) rfl (feq (h3 : ¬ (p1 = (2 : Int32)))).2 (by decide) (by decide)) ?_
        show own_Go p e below _ (s₁.setTop (mkF m 21 #[.val (.int p1), .val (.ref a2), .val (.ref a3)] []))
        refine own_via (fun _ => XS.aloadN X0.here hx rfl (hb hby d11_21) rfl rfl) ?_
        show own_Go p e below _ (s₁.setTop (mkF m 22 #[.val (.int p1), .val (.ref a2), .val (.ref a3)] [(.ref a3)]))
        exact own_retvW X0 hS0 (by rw [e0]; exact (Nat.zero_le _)) Bd.notSynchronized hx Bd.returns rfl (Or.inr (Or.inr (Or.inr (Or.inr ⟨rfl, rfl, rfl⟩)))) (hb hby d11_22) (by decide) (by decide) (by rw [e0]; exact ⟨(.ref a3), rfl, N0, (Keep.refl h0 []), rfl, (by simp [h1])⟩)
theorem d15_0 : decode prog_9_method_1_code 0 = .ok (.aload_n 0, 1) := by decide +kernel
theorem d15_1 : decode prog_9_method_1_code 1 = .ok (.invokespecial 1, 3) := by decide +kernel
theorem d15_4 : decode prog_9_method_1_code 4 = .ok (.aload_n 0, 1) := by decide +kernel
theorem d15_5 : decode prog_9_method_1_code 5 = .ok (.aload_n 1, 1) := by decide +kernel
theorem d15_6 : decode prog_9_method_1_code 6 = .ok (.putfield 7, 3) := by decide +kernel
theorem d15_9 : decode prog_9_method_1_code 9 = .ok (.aload_n 0, 1) := by decide +kernel
theorem d15_10 : decode prog_9_method_1_code 10 = .ok (.iload_n 2, 1) := by decide +kernel
theorem d15_11 : decode prog_9_method_1_code 11 = .ok (.putfield 13, 3) := by decide +kernel
theorem d15_14 : decode prog_9_method_1_code 14 = .ok (.return_, 1) := by decide +kernel
theorem pn_com_example_jobwright_jobwright_FileOrderSink : plainName "com/example/jobwright/jobwright/FileOrderSink" = true := by first | (simp [plainName, overriddenIn]; done) | decide +kernel
theorem ef_sink (m : MethodId) (a1 : Addr) (v1 : Value) (p2 : Int32) (hrv1 : v1.isRef = true) : entryFrame m #[(.ref a1), v1, (.int p2)] 3 = mkF m 0 #[.val (.ref a1), .val v1, .val (.int p2)] [] := by rcases ref_cases hrv1 with rfl | ⟨yv1, rfl⟩ <;>  first | (simp [entryFrame, mkF, argsToLocals, Value.category]; done) | rfl
def Qsink (Z : State) (a1 : Addr) (v1 : Value) (p2 : Int32) (h0 : Heap) (n0 : Nat) (v : Option Value) (h : Heap) (L : List Loc) : Prop := v = none ∧ Fr n0 L ∧ Keep h0 h [a1]
set_option maxRecDepth 65536 in
set_option maxHeartbeats 40000000 in
theorem rmsink (l : Launch) (Z : State) (a0 : Array Value) (hw : ∀ d ∈ tables_1, d.before a0 Z = true) (ws : List Jvm.Cond) (a1 : Addr) (v1 : Value) (p2 : Int32) (h0 : Heap) (n0 : Nat) (Z0 : n0 ≤ h0.size) (E1 : Exa Z h0 a1 "com/example/jobwright/jobwright/FileOrderSink") (F1 : Fld Z h0 a1 "com/example/jobwright/jobwright/FileOrderSink" "moveTo" "Ljava/lang/String;" .null) (F2 : Fld Z h0 a1 "com/example/jobwright/jobwright/FileOrderSink" "remove" "Z" (.int (0 : Int32))) (g1 : n0 ≤ a1) (hr1 : v1.isRef = true) :
    MetFree l (⟨"com/example/jobwright/jobwright/FileOrderSink", "<init>", "(Ljava/lang/String;Z)V"⟩ : MethodName) (head1 (Jvm.Cond.code (⟨"com/example/jobwright/jobwright/FileOrderSink", "<init>", "(Ljava/lang/String;Z)V"⟩ : MethodName) prog_9_method_1_code 3 none :: ws) ({ frames := 2, cells := 0, slots := 0, locals := 24 } : Room)) (fun a U => a = #[(.ref a1), v1, (.int p2)] ∧ Z.Warmed39 U.vm ∧ U.heap = h0) (fun _ _ _ _ _ => True) (fun _ U o U' => ∃ v L, o = .returned v ∧ Qsink Z a1 v1 p2 h0 n0 v U'.heap L ∧ FrameEnd U o U' L ({ frames := 2, cells := 0, slots := 0, locals := 24 } : Room).cells ({ frames := 2, cells := 0, slots := 0, locals := 24 } : Room).slots) := by
  refine MetFree.of_bodySF (plainFor_of_name pn_com_example_jobwright_jobwright_FileOrderSink) hisR ?_
  intro p e s m args below meth c s₁ Bd hml0 hP hK
  obtain ⟨rfl, hZ, hH0⟩ := hP
  have hx := Bd.exec
  have hby := Bd.bytes
  have hml : c.maxLocals = 3 := hml0
  have hown : s.vm.findClass "com/example/jobwright/jobwright/FileOrderSink" = some m.cls := findClass_of_methodNamed Bd.named
  have hnm := (name_of_methodNamed Bd.named Bd.method).1
  have X0 : Stand p l e ({ frames := 2, cells := 0, slots := 0, locals := 24 } : Room) s m #[(.ref a1), v1, (.int p2)] below meth c s₁ [] 0 0 := Stand.of_body Bd
  have e0 : s₁.heap = h0 := by rw [← hH0, Bd.state]; rfl
  have N0 := Fr.nil n0
  refine own_cast (ef_sink m a1 v1 p2 hr1) ?_
  show own_Go p e below (fun o U' => ∃ v L, o = .returned v ∧ Qsink Z a1 v1 p2 h0 n0 v U'.heap L ∧ FrameEnd s o U' L ({ frames := 2, cells := 0, slots := 0, locals := 24 } : Room).cells ({ frames := 2, cells := 0, slots := 0, locals := 24 } : Room).slots) (s₁.setTop (mkF m 0 #[.val (.ref a1), .val v1, .val (.int p2)] []))
  refine own_via (fun _ => XS.aloadN X0.here hx rfl (hb hby d15_0) rfl rfl) ?_
  show own_Go p e below _ (s₁.setTop (mkF m 1 #[.val (.ref a1), .val v1, .val (.int p2)] [(.ref a1)]))
  obtain ⟨_, _, ⟨T_1, L_1, k_1, n_1⟩, -, X_1, ⟨Lc_1, hQ_1, l_1, y_1, z_1⟩, st_1⟩ := X0.specialBack hx (y := (⟨"java/lang/Record", "<init>", "()V"⟩ : MethodName)) rfl hown (mvT hZ (own_w hw 86 rfl)) (mvT hZ (own_w hw 55 rfl)) (mvT hZ (own_w hw 58 rfl)) (by decide) (backOf (W := 0) (rmrec l Z a0 hw [] a1 h0 n0 Z0 ) hZ (own_w hw 58 rfl) (own_w hw 57 rfl) (by decide) (by decide)) (g := (mkF m 1 #[.val (.ref a1), .val v1, .val (.int p2)] [(.ref a1)])) rfl (by rw [hml]; rfl) (Steps.refl _) (a := a1) (argsL := []) (rest := []) (lenOf pd_0 rfl) rfl (by show 2 * 0 + _ ≤ _; exact Nat.le_of_eq rfl) (hb hby d15_1) (fun _ _ => ⟨rfl, e0, (by decide : 0 + 0 ≤ _), (by decide : 0 + 0 ≤ _)⟩)
  dsimp only [Pt.U, Pt.locs, Pt.cells, Pt.slots] at X_1 l_1 y_1 z_1 st_1 hQ_1
  subst l_1 y_1 z_1
  obtain ⟨rfl, Nq_1, K_1q⟩ := hQ_1
  have N_1 := Fr.app N0 Nq_1
  refine own_via (fun _ k => st_1.trans k) ?_
  show own_Go p e below _ (T_1.setTop (mkF m 4 #[.val (.ref a1), .val v1, .val (.int p2)] []))
  refine own_via (fun _ => XS.aloadN X_1.here hx rfl (hb hby d15_4) rfl rfl) ?_
  show own_Go p e below _ (T_1.setTop (mkF m 5 #[.val (.ref a1), .val v1, .val (.int p2)] [(.ref a1)]))
  refine own_via (fun _ => XS.aloadN X_1.here hx rfl (hb hby d15_5) rfl hr1) ?_
  show own_Go p e below _ (T_1.setTop (mkF m 6 #[.val (.ref a1), .val v1, .val (.int p2)] [v1, (.ref a1)]))
  have K_2 : Keep h0 T_1.heap [] := Keep.trans (ws := []) (Keep.refl h0 []) K_1q all0
  obtain ⟨T_3, h_3, X_3, e_3, W_3, st_3⟩ := putF X_1 hx hZ hown (host := "") (Or.inl (own_w hw 87 rfl)) Via.refl rfl (F1.keep K_2 nin0) (E1.keep K_2) (Or.inr ⟨(own_w hw 88 rfl), rfl, hnm⟩) (own_w hw 81 rfl) (ty := (.object "java/lang/String")) (by decide) (own_narR hr1) (own_fitR hr1) (g := (mkF m 6 #[.val (.ref a1), .val v1, .val (.int p2)] [v1, (.ref a1)])) rfl rfl (hb hby d15_6)
  have F_4 : Fld Z h_3 a1 "com/example/jobwright/jobwright/FileOrderSink" "remove" "Z" (.int (0 : Int32)) := (F2.keep K_2 nin0).other W_3 (Or.inr (slot_ne (Or.inr (own_w hw 90 rfl)) (Or.inr (own_w hw 88 rfl)) (by decide) (t := .boolean) (t' := (.object "java/lang/String")) (by decide) (by decide)))
  have F_5 : Fld Z h_3 a1 "com/example/jobwright/jobwright/FileOrderSink" "moveTo" "Ljava/lang/String;" v1 := (F1.keep K_2 nin0).same W_3
  have N_3 := Fr.snoc X_3 N_1 g1
  refine own_via st_3 ?_
  show own_Go p e below _ (T_3.setTop (mkF m 9 #[.val (.ref a1), .val v1, .val (.int p2)] []))
  refine own_via (fun _ => XS.aloadN X_3.here hx rfl (hb hby d15_9) rfl rfl) ?_
  show own_Go p e below _ (T_3.setTop (mkF m 10 #[.val (.ref a1), .val v1, .val (.int p2)] [(.ref a1)]))
  refine own_via (fun _ => XS.iloadN X_3.here hx rfl (hb hby d15_10) rfl) ?_
  show own_Go p e below _ (T_3.setTop (mkF m 11 #[.val (.ref a1), .val v1, .val (.int p2)] [(.int p2), (.ref a1)]))
  have K_6 : Keep h0 h_3 [a1] := Keep.wr (ws := [a1]) (own_keep_mono K_2 (by simp)) W_3 (Or.inl (List.mem_of_getElem? (i := 0) rfl))
  obtain ⟨T_7, h_7, X_7, e_7, W_7, st_7⟩ := putFN X_3 hx hZ hown (own_w hw 89 rfl) Via.refl e_3 F_4 (E1.keep K_6) (Or.inr ⟨(own_w hw 90 rfl), rfl, hnm⟩) (own_w hw 81 rfl) (ty := .boolean) (v' := (.int (nar .boolean p2))) (by decide) rfl (fits_nar_bool _) (g := (mkF m 11 #[.val (.ref a1), .val v1, .val (.int p2)] [(.int p2), (.ref a1)])) rfl rfl (hb hby d15_11)
  have F_8 : Fld Z h_7 a1 "com/example/jobwright/jobwright/FileOrderSink" "moveTo" "Ljava/lang/String;" v1 := F_5.other W_7 (Or.inr (slot_ne (Or.inr (own_w hw 88 rfl)) (Or.inr (own_w hw 90 rfl)) (by decide) (t := (.object "java/lang/String")) (t' := .boolean) (by decide) (by decide)))
  have F_9 : Fld Z h_7 a1 "com/example/jobwright/jobwright/FileOrderSink" "remove" "Z" (.int (nar .boolean p2)) := F_4.same W_7
  have N_7 := Fr.snoc X_7 N_3 g1
  refine own_via st_7 ?_
  show own_Go p e below _ (T_7.setTop (mkF m 14 #[.val (.ref a1), .val v1, .val (.int p2)] []))
  have K_10 : Keep h0 h_7 [a1] := Keep.wr (ws := [a1]) K_6 W_7 (Or.inl (List.mem_of_getElem? (i := 0) rfl))
  exact own_ret0 X_7 Bd.notSynchronized hx Bd.returns (hb hby d15_14) (by decide) (by decide) (by rw [e_7]; exact ⟨rfl, N_7, K_10⟩)
theorem d12_0 : decode prog_23_method_1_code 0 = .ok (.aload_n 0, 1) := by decide +kernel
theorem d12_1 : decode prog_23_method_1_code 1 = .ok (.invokespecial 1, 3) := by decide +kernel
theorem d12_4 : decode prog_23_method_1_code 4 = .ok (.aload_n 0, 1) := by decide +kernel
theorem d12_5 : decode prog_23_method_1_code 5 = .ok (.aload_n 1, 1) := by decide +kernel
theorem d12_6 : decode prog_23_method_1_code 6 = .ok (.putfield 7, 3) := by decide +kernel
theorem d12_9 : decode prog_23_method_1_code 9 = .ok (.aload_n 0, 1) := by decide +kernel
theorem d12_10 : decode prog_23_method_1_code 10 = .ok (.aload_n 2, 1) := by decide +kernel
theorem d12_11 : decode prog_23_method_1_code 11 = .ok (.putfield 13, 3) := by decide +kernel
theorem d12_14 : decode prog_23_method_1_code 14 = .ok (.aload_n 0, 1) := by decide +kernel
theorem d12_15 : decode prog_23_method_1_code 15 = .ok (.aload_n 3, 1) := by decide +kernel
theorem d12_16 : decode prog_23_method_1_code 16 = .ok (.putfield 16, 3) := by decide +kernel
theorem d12_19 : decode prog_23_method_1_code 19 = .ok (.aload_n 0, 1) := by decide +kernel
theorem d12_20 : decode prog_23_method_1_code 20 = .ok (.aload 4, 2) := by decide +kernel
theorem d12_22 : decode prog_23_method_1_code 22 = .ok (.putfield 19, 3) := by decide +kernel
theorem d12_25 : decode prog_23_method_1_code 25 = .ok (.aload_n 0, 1) := by decide +kernel
theorem d12_26 : decode prog_23_method_1_code 26 = .ok (.aload 5, 2) := by decide +kernel
theorem d12_28 : decode prog_23_method_1_code 28 = .ok (.putfield 22, 3) := by decide +kernel
theorem d12_31 : decode prog_23_method_1_code 31 = .ok (.aload_n 0, 1) := by decide +kernel
theorem d12_32 : decode prog_23_method_1_code 32 = .ok (.iload 6, 2) := by decide +kernel
theorem d12_34 : decode prog_23_method_1_code 34 = .ok (.putfield 26, 3) := by decide +kernel
theorem d12_37 : decode prog_23_method_1_code 37 = .ok (.return_, 1) := by decide +kernel
theorem pn_com_example_jobwright_jobwright_JobChain_Node : plainName "com/example/jobwright/jobwright/JobChain$Node" = true := by first | (simp [plainName, overriddenIn]; done) | decide +kernel
theorem ef_node (m : MethodId) (a1 : Addr) (v0 : Value) (v1 : Value) (v2 : Value) (v3 : Value) (v4 : Value) (p6 : Int32) (hrv0 : v0.isRef = true) (hrv1 : v1.isRef = true) (hrv2 : v2.isRef = true) (hrv3 : v3.isRef = true) (hrv4 : v4.isRef = true) : entryFrame m #[(.ref a1), v0, v1, v2, v3, v4, (.int p6)] 7 = mkF m 0 #[.val (.ref a1), .val v0, .val v1, .val v2, .val v3, .val v4, .val (.int p6)] [] := by rcases ref_cases hrv0 with rfl | ⟨yv0, rfl⟩ <;> rcases ref_cases hrv1 with rfl | ⟨yv1, rfl⟩ <;> rcases ref_cases hrv2 with rfl | ⟨yv2, rfl⟩ <;> rcases ref_cases hrv3 with rfl | ⟨yv3, rfl⟩ <;> rcases ref_cases hrv4 with rfl | ⟨yv4, rfl⟩ <;>  first | (simp [entryFrame, mkF, argsToLocals, Value.category]; done) | rfl
def Qnode (Z : State) (a1 : Addr) (v0 : Value) (v1 : Value) (v2 : Value) (v3 : Value) (v4 : Value) (p6 : Int32) (h0 : Heap) (n0 : Nat) (v : Option Value) (h : Heap) (L : List Loc) : Prop := v = none ∧ Fr n0 L ∧ Keep h0 h [a1] ∧ (Fld Z h a1 "com/example/jobwright/jobwright/JobChain$Node" "job" "Ljava/lang/String;" v1)
set_option maxRecDepth 65536 in
set_option maxHeartbeats 40000000 in
theorem rmnode (l : Launch) (Z : State) (a0 : Array Value) (hw : ∀ d ∈ tables_1, d.before a0 Z = true) (ws : List Jvm.Cond) (a1 : Addr) (v0 : Value) (v1 : Value) (v2 : Value) (v3 : Value) (v4 : Value) (p6 : Int32) (h0 : Heap) (n0 : Nat) (Z0 : n0 ≤ h0.size) (E1 : Exa Z h0 a1 "com/example/jobwright/jobwright/JobChain$Node") (F0 : Fld Z h0 a1 "com/example/jobwright/jobwright/JobChain$Node" "state" "Ljava/lang/String;" .null) (F1 : Fld Z h0 a1 "com/example/jobwright/jobwright/JobChain$Node" "job" "Ljava/lang/String;" .null) (F2 : Fld Z h0 a1 "com/example/jobwright/jobwright/JobChain$Node" "nextState" "Ljava/lang/String;" .null) (F3 : Fld Z h0 a1 "com/example/jobwright/jobwright/JobChain$Node" "errorState" "Ljava/lang/String;" .null) (F4 : Fld Z h0 a1 "com/example/jobwright/jobwright/JobChain$Node" "sink" "Lcom/example/jobwright/jobwright/FileOrderSink;" .null) (F5 : Fld Z h0 a1 "com/example/jobwright/jobwright/JobChain$Node" "line" "I" (.int (0 : Int32))) (g1 : n0 ≤ a1) (hr0 : v0.isRef = true) (hr1 : v1.isRef = true) (hr2 : v2.isRef = true) (hr3 : v3.isRef = true) (hr4 : v4.isRef = true) :
    MetFree l (⟨"com/example/jobwright/jobwright/JobChain$Node", "<init>", "(Ljava/lang/String;Ljava/lang/String;Ljava/lang/String;Ljava/lang/String;Lcom/example/jobwright/jobwright/FileOrderSink;I)V"⟩ : MethodName) (head1 (Jvm.Cond.code (⟨"com/example/jobwright/jobwright/JobChain$Node", "<init>", "(Ljava/lang/String;Ljava/lang/String;Ljava/lang/String;Ljava/lang/String;Lcom/example/jobwright/jobwright/FileOrderSink;I)V"⟩ : MethodName) prog_23_method_1_code 7 none :: ws) ({ frames := 2, cells := 0, slots := 0, locals := 24 } : Room)) (fun a U => a = #[(.ref a1), v0, v1, v2, v3, v4, (.int p6)] ∧ Z.Warmed39 U.vm ∧ U.heap = h0) (fun _ _ _ _ _ => True) (fun _ U o U' => ∃ v L, o = .returned v ∧ Qnode Z a1 v0 v1 v2 v3 v4 p6 h0 n0 v U'.heap L ∧ FrameEnd U o U' L ({ frames := 2, cells := 0, slots := 0, locals := 24 } : Room).cells ({ frames := 2, cells := 0, slots := 0, locals := 24 } : Room).slots) := by
  refine MetFree.of_bodySF (plainFor_of_name pn_com_example_jobwright_jobwright_JobChain_Node) hisR ?_
  intro p e s m args below meth c s₁ Bd hml0 hP hK
  obtain ⟨rfl, hZ, hH0⟩ := hP
  have hx := Bd.exec
  have hby := Bd.bytes
  have hml : c.maxLocals = 7 := hml0
  have hown : s.vm.findClass "com/example/jobwright/jobwright/JobChain$Node" = some m.cls := findClass_of_methodNamed Bd.named
  have hnm := (name_of_methodNamed Bd.named Bd.method).1
  have X0 : Stand p l e ({ frames := 2, cells := 0, slots := 0, locals := 24 } : Room) s m #[(.ref a1), v0, v1, v2, v3, v4, (.int p6)] below meth c s₁ [] 0 0 := Stand.of_body Bd
  have e0 : s₁.heap = h0 := by rw [← hH0, Bd.state]; rfl
  have N0 := Fr.nil n0
  refine own_cast (ef_node m a1 v0 v1 v2 v3 v4 p6 hr0 hr1 hr2 hr3 hr4) ?_
  show own_Go p e below (fun o U' => ∃ v L, o = .returned v ∧ Qnode Z a1 v0 v1 v2 v3 v4 p6 h0 n0 v U'.heap L ∧ FrameEnd s o U' L ({ frames := 2, cells := 0, slots := 0, locals := 24 } : Room).cells ({ frames := 2, cells := 0, slots := 0, locals := 24 } : Room).slots) (s₁.setTop (mkF m 0 #[.val (.ref a1), .val v0, .val v1, .val v2, .val v3, .val v4, .val (.int p6)] []))
  refine own_via (fun _ => XS.aloadN X0.here hx rfl (hb hby d12_0) rfl rfl) ?_
  show own_Go p e below _ (s₁.setTop (mkF m 1 #[.val (.ref a1), .val v0, .val v1, .val v2, .val v3, .val v4, .val (.int p6)] [(.ref a1)]))
  obtain ⟨_, _, ⟨T_1, L_1, k_1, n_1⟩, -, X_1, ⟨Lc_1, hQ_1, l_1, y_1, z_1⟩, st_1⟩ := X0.specialBack hx (y := (⟨"java/lang/Record", "<init>", "()V"⟩ : MethodName)) rfl hown (mvT hZ (own_w hw 54 rfl)) (mvT hZ (own_w hw 55 rfl)) (mvT hZ (own_w hw 58 rfl)) (by decide) (backOf (W := 0) (rmrec l Z a0 hw [] a1 h0 n0 Z0 ) hZ (own_w hw 58 rfl) (own_w hw 57 rfl) (by decide) (by decide)) (g := (mkF m 1 #[.val (.ref a1), .val v0, .val v1, .val v2, .val v3, .val v4, .val (.int p6)] [(.ref a1)])) rfl (by rw [hml]; rfl) (Steps.refl _) (a := a1) (argsL := []) (rest := []) (lenOf pd_0 rfl) rfl (by show 2 * 0 + _ ≤ _; exact Nat.le_of_eq rfl) (hb hby d12_1) (fun _ _ => ⟨rfl, e0, (by decide : 0 + 0 ≤ _), (by decide : 0 + 0 ≤ _)⟩)
  dsimp only [Pt.U, Pt.locs, Pt.cells, Pt.slots] at X_1 l_1 y_1 z_1 st_1 hQ_1
  subst l_1 y_1 z_1
  obtain ⟨rfl, Nq_1, K_1q⟩ := hQ_1
  have N_1 := Fr.app N0 Nq_1
  refine own_via (fun _ k => st_1.trans k) ?_
  show own_Go p e below _ (T_1.setTop (mkF m 4 #[.val (.ref a1), .val v0, .val v1, .val v2, .val v3, .val v4, .val (.int p6)] []))
  refine own_via (fun _ => XS.aloadN X_1.here hx rfl (hb hby d12_4) rfl rfl) ?_
  show own_Go p e below _ (T_1.setTop (mkF m 5 #[.val (.ref a1), .val v0, .val v1, .val v2, .val v3, .val v4, .val (.int p6)] [(.ref a1)]))
  refine own_via (fun _ => XS.aloadN X_1.here hx rfl (hb hby d12_5) rfl hr0) ?_
  show own_Go p e below _ (T_1.setTop (mkF m 6 #[.val (.ref a1), .val v0, .val v1, .val v2, .val v3, .val v4, .val (.int p6)] [v0, (.ref a1)]))
  have K_2 : Keep h0 T_1.heap [] := Keep.trans (ws := []) (Keep.refl h0 []) K_1q all0
  obtain ⟨T_3, h_3, X_3, e_3, W_3, st_3⟩ := putF X_1 hx hZ hown (host := "") (Or.inl (own_w hw 60 rfl)) Via.refl rfl (F0.keep K_2 nin0) (E1.keep K_2) (Or.inr ⟨(own_w hw 61 rfl), rfl, hnm⟩) (own_w hw 49 rfl) (ty := (.object "java/lang/String")) (by decide) (own_narR hr0) (own_fitR hr0) (g := (mkF m 6 #[.val (.ref a1), .val v0, .val v1, .val v2, .val v3, .val v4, .val (.int p6)] [v0, (.ref a1)])) rfl rfl (hb hby d12_6)
  have F_4 : Fld Z h_3 a1 "com/example/jobwright/jobwright/JobChain$Node" "job" "Ljava/lang/String;" .null := (F1.keep K_2 nin0).other W_3 (Or.inr (slot_ne (Or.inr (own_w hw 63 rfl)) (Or.inr (own_w hw 61 rfl)) (by decide) (t := (.object "java/lang/String")) (t' := (.object "java/lang/String")) (by decide) (by decide)))
  have F_5 : Fld Z h_3 a1 "com/example/jobwright/jobwright/JobChain$Node" "nextState" "Ljava/lang/String;" .null := (F2.keep K_2 nin0).other W_3 (Or.inr (slot_ne (Or.inr (own_w hw 65 rfl)) (Or.inr (own_w hw 61 rfl)) (by decide) (t := (.object "java/lang/String")) (t' := (.object "java/lang/String")) (by decide) (by decide)))
  have F_6 : Fld Z h_3 a1 "com/example/jobwright/jobwright/JobChain$Node" "errorState" "Ljava/lang/String;" .null := (F3.keep K_2 nin0).other W_3 (Or.inr (slot_ne (Or.inr (own_w hw 67 rfl)) (Or.inr (own_w hw 61 rfl)) (by decide) (t := (.object "java/lang/String")) (t' := (.object "java/lang/String")) (by decide) (by decide)))
  have F_7 : Fld Z h_3 a1 "com/example/jobwright/jobwright/JobChain$Node" "sink" "Lcom/example/jobwright/jobwright/FileOrderSink;" .null := (F4.keep K_2 nin0).other W_3 (Or.inr (slot_ne (Or.inr (own_w hw 69 rfl)) (Or.inr (own_w hw 61 rfl)) (by decide) (t := (.object "com/example/jobwright/jobwright/FileOrderSink")) (t' := (.object "java/lang/String")) (by decide) (by decide)))
  have F_8 : Fld Z h_3 a1 "com/example/jobwright/jobwright/JobChain$Node" "line" "I" (.int (0 : Int32)) := (F5.keep K_2 nin0).other W_3 (Or.inr (slot_ne (Or.inr (own_w hw 71 rfl)) (Or.inr (own_w hw 61 rfl)) (by decide) (t := .int) (t' := (.object "java/lang/String")) (by decide) (by decide)))
  have F_9 : Fld Z h_3 a1 "com/example/jobwright/jobwright/JobChain$Node" "state" "Ljava/lang/String;" v0 := (F0.keep K_2 nin0).same W_3
  have N_3 := Fr.snoc X_3 N_1 g1
  refine own_via st_3 ?_
  show own_Go p e below _ (T_3.setTop (mkF m 9 #[.val (.ref a1), .val v0, .val v1, .val v2, .val v3, .val v4, .val (.int p6)] []))
  refine own_via (fun _ => XS.aloadN X_3.here hx rfl (hb hby d12_9) rfl rfl) ?_
  show own_Go p e below _ (T_3.setTop (mkF m 10 #[.val (.ref a1), .val v0, .val v1, .val v2, .val v3, .val v4, .val (.int p6)] [(.ref a1)]))
  refine own_via (fun _ => XS.aloadN X_3.here hx rfl (hb hby d12_10) rfl hr1) ?_
  show own_Go p e below _ (T_3.setTop (mkF m 11 #[.val (.ref a1), .val v0, .val v1, .val v2, .val v3, .val v4, .val (.int p6)] [v1, (.ref a1)]))
  have K_10 : Keep h0 h_3 [a1] := Keep.wr (ws := [a1]) (own_keep_mono K_2 (by simp)) W_3 (Or.inl (List.mem_of_getElem? (i := 0) rfl))
  obtain ⟨T_11, h_11, X_11, e_11, W_11, st_11⟩ := putF X_3 hx hZ hown (host := "") (Or.inl (own_w hw 62 rfl)) Via.refl e_3 F_4 (E1.keep K_10) (Or.inr ⟨(own_w hw 63 rfl), rfl, hnm⟩) (own_w hw 49 rfl) (ty := (.object "java/lang/String")) (by decide) (own_narR hr1) (own_fitR hr1) (g := (mkF m 11 #[.val (.ref a1), .val v0, .val v1, .val v2, .val v3, .val v4, .val (.int p6)] [v1, (.ref a1)])) rfl rfl (hb hby d12_11)
  have F_12 : Fld Z h_11 a1 "com/example/jobwright/jobwright/JobChain$Node" "nextState" "Ljava/lang/String;" .null := F_5.other W_11 (Or.inr (slot_ne (Or.inr (own_w hw 65 rfl)) (Or.inr (own_w hw 63 rfl)) (by decide) (t := (.object "java/lang/String")) (t' := (.object "java/lang/String")) (by decide) (by decide)))
  have F_13 : Fld Z h_11 a1 "com/example/jobwright/jobwright/JobChain$Node" "errorState" "Ljava/lang/String;" .null := F_6.other W_11 (Or.inr (slot_ne (Or.inr (own_w hw 67 rfl)) (Or.inr (own_w hw 63 rfl)) (by decide) (t := (.object "java/lang/String")) (t' := (.object "java/lang/String")) (by decide) (by decide)))
  have F_14 : Fld Z h_11 a1 "com/example/jobwright/jobwright/JobChain$Node" "sink" "Lcom/example/jobwright/jobwright/FileOrderSink;" .null := F_7.other W_11 (Or.inr (slot_ne (Or.inr (own_w hw 69 rfl)) (Or.inr (own_w hw 63 rfl)) (by decide) (t := (.object "com/example/jobwright/jobwright/FileOrderSink")) (t' := (.object "java/lang/String")) (by decide) (by decide)))
  have F_15 : Fld Z h_11 a1 "com/example/jobwright/jobwright/JobChain$Node" "line" "I" (.int (0 : Int32)) := F_8.other W_11 (Or.inr (slot_ne (Or.inr (own_w hw 71 rfl)) (Or.inr (own_w hw 63 rfl)) (by decide) (t := .int) (t' := (.object "java/lang/String")) (by decide) (by decide)))
  have F_16 : Fld Z h_11 a1 "com/example/jobwright/jobwright/JobChain$Node" "state" "Ljava/lang/String;" v0 := F_9.other W_11 (Or.inr (slot_ne (Or.inr (own_w hw 61 rfl)) (Or.inr (own_w hw 63 rfl)) (by decide) (t := (.object "java/lang/String")) (t' := (.object "java/lang/String")) (by decide) (by decide)))
  have F_17 : Fld Z h_11 a1 "com/example/jobwright/jobwright/JobChain$Node" "job" "Ljava/lang/String;" v1 := F_4.same W_11
  have N_11 := Fr.snoc X_11 N_3 g1
  refine own_via st_11 ?_
  show own_Go p e below _ (T_11.setTop (mkF m 14 #[.val (.ref a1), .val v0, .val v1, .val v2, .val v3, .val v4, .val (.int p6)] []))
  refine own_via (fun _ => XS.aloadN X_11.here hx rfl (hb hby d12_14) rfl rfl) ?_
  show own_Go p e below _ (T_11.setTop (mkF m 15 #[.val (.ref a1), .val v0, .val v1, .val v2, .val v3, .val v4, .val (.int p6)] [(.ref a1)]))
  refine own_via (fun _ => XS.aloadN X_11.here hx rfl (hb hby d12_15) rfl hr2) ?_
  show own_Go p e below _ (T_11.setTop (mkF m 16 #[.val (.ref a1), .val v0, .val v1, .val v2, .val v3, .val v4, .val (.int p6)] [v2, (.ref a1)]))
  have K_18 : Keep h0 h_11 [a1] := Keep.wr (ws := [a1]) K_10 W_11 (Or.inl (List.mem_of_getElem? (i := 0) rfl))
  obtain ⟨T_19, h_19, X_19, e_19, W_19, st_19⟩ := putF X_11 hx hZ hown (host := "") (Or.inl (own_w hw 64 rfl)) Via.refl e_11 F_12 (E1.keep K_18) (Or.inr ⟨(own_w hw 65 rfl), rfl, hnm⟩) (own_w hw 49 rfl) (ty := (.object "java/lang/String")) (by decide) (own_narR hr2) (own_fitR hr2) (g := (mkF m 16 #[.val (.ref a1), .val v0, .val v1, .val v2, .val v3, .val v4, .val (.int p6)] [v2, (.ref a1)])) rfl rfl (hb hby d12_16)
  have F_20 : Fld Z h_19 a1 "com/example/jobwright/jobwright/JobChain$Node" "errorState" "Ljava/lang/String;" .null := F_13.other W_19 (Or.inr (slot_ne (Or.inr (own_w hw 67 rfl)) (Or.inr (own_w hw 65 rfl)) (by decide) (t := (.object "java/lang/String")) (t' := (.object "java/lang/String")) (by decide) (by decide)))
  have F_21 : Fld Z h_19 a1 "com/example/jobwright/jobwright/JobChain$Node" "sink" "Lcom/example/jobwright/jobwright/FileOrderSink;" .null := F_14.other W_19 (Or.inr (slot_ne (Or.inr (own_w hw 69 rfl)) (Or.inr (own_w hw 65 rfl)) (by decide) (t := (.object "com/example/jobwright/jobwright/FileOrderSink")) (t' := (.object "java/lang/String")) (by decide) (by decide)))
  have F_22 : Fld Z h_19 a1 "com/example/jobwright/jobwright/JobChain$Node" "line" "I" (.int (0 : Int32)) := F_15.other W_19 (Or.inr (slot_ne (Or.inr (own_w hw 71 rfl)) (Or.inr (own_w hw 65 rfl)) (by decide) (t := .int) (t' := (.object "java/lang/String")) (by decide) (by decide)))
  have F_23 : Fld Z h_19 a1 "com/example/jobwright/jobwright/JobChain$Node" "state" "Ljava/lang/String;" v0 := F_16.other W_19 (Or.inr (slot_ne (Or.inr (own_w hw 61 rfl)) (Or.inr (own_w hw 65 rfl)) (by decide) (t := (.object "java/lang/String")) (t' := (.object "java/lang/String")) (by decide) (by decide)))
  have F_24 : Fld Z h_19 a1 "com/example/jobwright/jobwright/JobChain$Node" "job" "Ljava/lang/String;" v1 := F_17.other W_19 (Or.inr (slot_ne (Or.inr (own_w hw 63 rfl)) (Or.inr (own_w hw 65 rfl)) (by decide) (t := (.object "java/lang/String")) (t' := (.object "java/lang/String")) (by decide) (by decide)))
  have F_25 : Fld Z h_19 a1 "com/example/jobwright/jobwright/JobChain$Node" "nextState" "Ljava/lang/String;" v2 := F_12.same W_19
  have N_19 := Fr.snoc X_19 N_11 g1
  refine own_via st_19 ?_
  show own_Go p e below _ (T_19.setTop (mkF m 19 #[.val (.ref a1), .val v0, .val v1, .val v2, .val v3, .val v4, .val (.int p6)] []))
  refine own_via (fun _ => XS.aloadN X_19.here hx rfl (hb hby d12_19) rfl rfl) ?_
  show own_Go p e below _ (T_19.setTop (mkF m 20 #[.val (.ref a1), .val v0, .val v1, .val v2, .val v3, .val v4, .val (.int p6)] [(.ref a1)]))
  refine own_via (fun _ => XS.aload X_19.here hx rfl (hb hby d12_20) rfl hr3) ?_
  show own_Go p e below _ (T_19.setTop (mkF m 22 #[.val (.ref a1), .val v0, .val v1, .val v2, .val v3, .val v4, .val (.int p6)] [v3, (.ref a1)]))
  have K_26 : Keep h0 h_19 [a1] := Keep.wr (ws := [a1]) K_18 W_19 (Or.inl (List.mem_of_getElem? (i := 0) rfl))
  obtain ⟨T_27, h_27, X_27, e_27, W_27, st_27⟩ := putF X_19 hx hZ hown (host := "") (Or.inl (own_w hw 66 rfl)) Via.refl e_19 F_20 (E1.keep K_26) (Or.inr ⟨(own_w hw 67 rfl), rfl, hnm⟩) (own_w hw 49 rfl) (ty := (.object "java/lang/String")) (by decide) (own_narR hr3) (own_fitR hr3) (g := (mkF m 22 #[.val (.ref a1), .val v0, .val v1, .val v2, .val v3, .val v4, .val (.int p6)] [v3, (.ref a1)])) rfl rfl (hb hby d12_22)
  have F_28 : Fld Z h_27 a1 "com/example/jobwright/jobwright/JobChain$Node" "sink" "Lcom/example/jobwright/jobwright/FileOrderSink;" .null := F_21.other W_27 (Or.inr (slot_ne (Or.inr (own_w hw 69 rfl)) (Or.inr (own_w hw 67 rfl)) (by decide) (t := (.object "com/example/jobwright/jobwright/FileOrderSink")) (t' := (.object "java/lang/String")) (by decide) (by decide)))
  have F_29 : Fld Z h_27 a1 "com/example/jobwright/jobwright/JobChain$Node" "line" "I" (.int (0 : Int32)) := F_22.other W_27 (Or.inr (slot_ne (Or.inr (own_w hw 71 rfl)) (Or.inr (own_w hw 67 rfl)) (by decide) (t := .int) (t' := (.object "java/lang/String")) (by decide) (by decide)))
  have F_30 : Fld Z h_27 a1 "com/example/jobwright/jobwright/JobChain$Node" "state" "Ljava/lang/String;" v0 := F_23.other W_27 (Or.inr (slot_ne (Or.inr (own_w hw 61 rfl)) (Or.inr (own_w hw 67 rfl)) (by decide) (t := (.object "java/lang/String")) (t' := (.object "java/lang/String")) (by decide) (by decide)))
  have F_31 : Fld Z h_27 a1 "com/example/jobwright/jobwright/JobChain$Node" "job" "Ljava/lang/String;" v1 := F_24.other W_27 (Or.inr (slot_ne (Or.inr (own_w hw 63 rfl)) (Or.inr (own_w hw 67 rfl)) (by decide) (t := (.object "java/lang/String")) (t' := (.object "java/lang/String")) (by decide) (by decide)))
  have F_32 : Fld Z h_27 a1 "com/example/jobwright/jobwright/JobChain$Node" "nextState" "Ljava/lang/String;" v2 := F_25.other W_27 (Or.inr (slot_ne (Or.inr (own_w hw 65 rfl)) (Or.inr (own_w hw 67 rfl)) (by decide) (t := (.object "java/lang/String")) (t' := (.object "java/lang/String")) (by decide) (by decide)))
  have F_33 : Fld Z h_27 a1 "com/example/jobwright/jobwright/JobChain$Node" "errorState" "Ljava/lang/String;" v3 := F_20.same W_27
  have N_27 := Fr.snoc X_27 N_19 g1
  refine own_via st_27 ?_
  show own_Go p e below _ (T_27.setTop (mkF m 25 #[.val (.ref a1), .val v0, .val v1, .val v2, .val v3, .val v4, .val (.int p6)] []))
  refine own_via (fun _ => XS.aloadN X_27.here hx rfl (hb hby d12_25) rfl rfl) ?_
  show own_Go p e below _ (T_27.setTop (mkF m 26 #[.val (.ref a1), .val v0, .val v1, .val v2, .val v3, .val v4, .val (.int p6)] [(.ref a1)]))
  refine own_via (fun _ => XS.aload X_27.here hx rfl (hb hby d12_26) rfl hr4) ?_
  show own_Go p e below _ (T_27.setTop (mkF m 28 #[.val (.ref a1), .val v0, .val v1, .val v2, .val v3, .val v4, .val (.int p6)] [v4, (.ref a1)]))
  have K_34 : Keep h0 h_27 [a1] := Keep.wr (ws := [a1]) K_26 W_27 (Or.inl (List.mem_of_getElem? (i := 0) rfl))
  obtain ⟨T_35, h_35, X_35, e_35, W_35, st_35⟩ := putF X_27 hx hZ hown (host := "") (Or.inl (own_w hw 68 rfl)) Via.refl e_27 F_28 (E1.keep K_34) (Or.inr ⟨(own_w hw 69 rfl), rfl, hnm⟩) (own_w hw 49 rfl) (ty := (.object "com/example/jobwright/jobwright/FileOrderSink")) (by decide) (own_narR hr4) (own_fitR hr4) (g := (mkF m 28 #[.val (.ref a1), .val v0, .val v1, .val v2, .val v3, .val v4, .val (.int p6)] [v4, (.ref a1)])) rfl rfl (hb hby d12_28)
  have F_36 : Fld Z h_35 a1 "com/example/jobwright/jobwright/JobChain$Node" "line" "I" (.int (0 : Int32)) := F_29.other W_35 (Or.inr (slot_ne (Or.inr (own_w hw 71 rfl)) (Or.inr (own_w hw 69 rfl)) (by decide) (t := .int) (t' := (.object "com/example/jobwright/jobwright/FileOrderSink")) (by decide) (by decide)))
  have F_37 : Fld Z h_35 a1 "com/example/jobwright/jobwright/JobChain$Node" "state" "Ljava/lang/String;" v0 := F_30.other W_35 (Or.inr (slot_ne (Or.inr (own_w hw 61 rfl)) (Or.inr (own_w hw 69 rfl)) (by decide) (t := (.object "java/lang/String")) (t' := (.object "com/example/jobwright/jobwright/FileOrderSink")) (by decide) (by decide)))
  have F_38 : Fld Z h_35 a1 "com/example/jobwright/jobwright/JobChain$Node" "job" "Ljava/lang/String;" v1 := F_31.other W_35 (Or.inr (slot_ne (Or.inr (own_w hw 63 rfl)) (Or.inr (own_w hw 69 rfl)) (by decide) (t := (.object "java/lang/String")) (t' := (.object "com/example/jobwright/jobwright/FileOrderSink")) (by decide) (by decide)))
  have F_39 : Fld Z h_35 a1 "com/example/jobwright/jobwright/JobChain$Node" "nextState" "Ljava/lang/String;" v2 := F_32.other W_35 (Or.inr (slot_ne (Or.inr (own_w hw 65 rfl)) (Or.inr (own_w hw 69 rfl)) (by decide) (t := (.object "java/lang/String")) (t' := (.object "com/example/jobwright/jobwright/FileOrderSink")) (by decide) (by decide)))
  have F_40 : Fld Z h_35 a1 "com/example/jobwright/jobwright/JobChain$Node" "errorState" "Ljava/lang/String;" v3 := F_33.other W_35 (Or.inr (slot_ne (Or.inr (own_w hw 67 rfl)) (Or.inr (own_w hw 69 rfl)) (by decide) (t := (.object "java/lang/String")) (t' := (.object "com/example/jobwright/jobwright/FileOrderSink")) (by decide) (by decide)))
  have F_41 : Fld Z h_35 a1 "com/example/jobwright/jobwright/JobChain$Node" "sink" "Lcom/example/jobwright/jobwright/FileOrderSink;" v4 := F_28.same W_35
  have N_35 := Fr.snoc X_35 N_27 g1
  refine own_via st_35 ?_
  show own_Go p e below _ (T_35.setTop (mkF m 31 #[.val (.ref a1), .val v0, .val v1, .val v2, .val v3, .val v4, .val (.int p6)] []))
  refine own_via (fun _ => XS.aloadN X_35.here hx rfl (hb hby d12_31) rfl rfl) ?_
  show own_Go p e below _ (T_35.setTop (mkF m 32 #[.val (.ref a1), .val v0, .val v1, .val v2, .val v3, .val v4, .val (.int p6)] [(.ref a1)]))
  refine own_via (fun _ => XS.iload X_35.here hx rfl (hb hby d12_32) rfl) ?_
  show own_Go p e below _ (T_35.setTop (mkF m 34 #[.val (.ref a1), .val v0, .val v1, .val v2, .val v3, .val v4, .val (.int p6)] [(.int p6), (.ref a1)]))
  have K_42 : Keep h0 h_35 [a1] := Keep.wr (ws := [a1]) K_34 W_35 (Or.inl (List.mem_of_getElem? (i := 0) rfl))
  obtain ⟨T_43, h_43, X_43, e_43, W_43, st_43⟩ := putF X_35 hx hZ hown (host := "") (Or.inl (own_w hw 70 rfl)) Via.refl e_35 F_36 (E1.keep K_42) (Or.inr ⟨(own_w hw 71 rfl), rfl, hnm⟩) (own_w hw 49 rfl) (ty := .int) (by decide) rfl rfl (g := (mkF m 34 #[.val (.ref a1), .val v0, .val v1, .val v2, .val v3, .val v4, .val (.int p6)] [(.int p6), (.ref a1)])) rfl rfl (hb hby d12_34)
  have F_44 : Fld Z h_43 a1 "com/example/jobwright/jobwright/JobChain$Node" "state" "Ljava/lang/String;" v0 := F_37.other W_43 (Or.inr (slot_ne (Or.inr (own_w hw 61 rfl)) (Or.inr (own_w hw 71 rfl)) (by decide) (t := (.object "java/lang/String")) (t' := .int) (by decide) (by decide)))
  have F_45 : Fld Z h_43 a1 "com/example/jobwright/jobwright/JobChain$Node" "job" "Ljava/lang/String;" v1 := F_38.other W_43 (Or.inr (slot_ne (Or.inr (own_w hw 63 rfl)) (Or.inr (own_w hw 71 rfl)) (by decide) (t := (.object "java/lang/String")) (t' := .int) (by decide) (by decide)))
  have F_46 : Fld Z h_43 a1 "com/example/jobwright/jobwright/JobChain$Node" "nextState" "Ljava/lang/String;" v2 := F_39.other W_43 (Or.inr (slot_ne (Or.inr (own_w hw 65 rfl)) (Or.inr (own_w hw 71 rfl)) (by decide) (t := (.object "java/lang/String")) (t' := .int) (by decide) (by decide)))
  have F_47 : Fld Z h_43 a1 "com/example/jobwright/jobwright/JobChain$Node" "errorState" "Ljava/lang/String;" v3 := F_40.other W_43 (Or.inr (slot_ne (Or.inr (own_w hw 67 rfl)) (Or.inr (own_w hw 71 rfl)) (by decide) (t := (.object "java/lang/String")) (t' := .int) (by decide) (by decide)))
  have F_48 : Fld Z h_43 a1 "com/example/jobwright/jobwright/JobChain$Node" "sink" "Lcom/example/jobwright/jobwright/FileOrderSink;" v4 := F_41.other W_43 (Or.inr (slot_ne (Or.inr (own_w hw 69 rfl)) (Or.inr (own_w hw 71 rfl)) (by decide) (t := (.object "com/example/jobwright/jobwright/FileOrderSink")) (t' := .int) (by decide) (by decide)))
  have F_49 : Fld Z h_43 a1 "com/example/jobwright/jobwright/JobChain$Node" "line" "I" (.int p6) := F_36.same W_43
  have N_43 := Fr.snoc X_43 N_35 g1
  refine own_via st_43 ?_
  show own_Go p e below _ (T_43.setTop (mkF m 37 #[.val (.ref a1), .val v0, .val v1, .val v2, .val v3, .val v4, .val (.int p6)] []))
  have K_50 : Keep h0 h_43 [a1] := Keep.wr (ws := [a1]) K_42 W_43 (Or.inl (List.mem_of_getElem? (i := 0) rfl))
  exact own_ret0 X_43 Bd.notSynchronized hx Bd.returns (hb hby d12_37) (by decide) (by decide) (by rw [e_43]; exact ⟨rfl, N_43, K_50, F_45⟩)
theorem d14_0 : decode prog_23_method_2_code 0 = .ok (.aload_n 0, 1) := by decide +kernel
theorem d14_1 : decode prog_23_method_2_code 1 = .ok (.getfield 13, 3) := by decide +kernel
theorem d14_4 : decode prog_23_method_2_code 4 = .ok (.ifnonnull 7, 3) := by decide +kernel
theorem d14_7 : decode prog_23_method_2_code 7 = .ok (.iconst 1, 1) := by decide +kernel
theorem d14_8 : decode prog_23_method_2_code 8 = .ok (.goto 4, 3) := by decide +kernel
theorem d14_11 : decode prog_23_method_2_code 11 = .ok (.iconst 0, 1) := by decide +kernel
theorem d14_12 : decode prog_23_method_2_code 12 = .ok (.ireturn, 1) := by decide +kernel
theorem ef_isEnd (m : MethodId) (a1 : Addr) : entryFrame m #[(.ref a1)] 1 = mkF m 0 #[.val (.ref a1)] [] := by first | (simp [entryFrame, mkF, argsToLocals, Value.category]; done) | rfl
def QisEnd (Z : State) (a1 : Addr) (v1 : Value) (h0 : Heap) (n0 : Nat) (v : Option Value) (h : Heap) (L : List Loc) : Prop := ∃ z : Int32, v = some (.int z) ∧ Fr n0 L ∧ Keep h0 h [] ∧ (z = if v1 = .null then 1 else 0)
set_option maxRecDepth 65536 in
set_option maxHeartbeats 40000000 in
theorem rmisEnd (l : Launch) (Z : State) (a0 : Array Value) (hw : ∀ d ∈ tables_1, d.before a0 Z = true) (ws : List Jvm.Cond) (a1 : Addr) (v1 : Value) (h0 : Heap) (n0 : Nat) (Z0 : n0 ≤ h0.size) (F1 : Fld Z h0 a1 "com/example/jobwright/jobwright/JobChain$Node" "job" "Ljava/lang/String;" v1) (hr1 : v1.isRef = true) :
    MetFree l (⟨"com/example/jobwright/jobwright/JobChain$Node", "isEnd", "()Z"⟩ : MethodName) (head1 (Jvm.Cond.code (⟨"com/example/jobwright/jobwright/JobChain$Node", "isEnd", "()Z"⟩ : MethodName) prog_23_method_2_code 1 (some .boolean) :: ws) ({ frames := 0, cells := 0, slots := 0, locals := 0 } : Room)) (fun a U => a = #[(.ref a1)] ∧ Z.Warmed39 U.vm ∧ U.heap = h0) (fun _ _ _ _ _ => True) (fun _ U o U' => ∃ v L, o = .returned v ∧ QisEnd Z a1 v1 h0 n0 v U'.heap L ∧ FrameEnd U o U' L ({ frames := 0, cells := 0, slots := 0, locals := 0 } : Room).cells ({ frames := 0, cells := 0, slots := 0, locals := 0 } : Room).slots) := by
  refine MetFree.of_bodySF (plainFor_of_name pn_com_example_jobwright_jobwright_JobChain_Node) hisR ?_
  intro p e s m args below meth c s₁ Bd hml0 hP hK
  obtain ⟨rfl, hZ, hH0⟩ := hP
  have hx := Bd.exec
  have hby := Bd.bytes
  have hml : c.maxLocals = 1 := hml0
  have hown : s.vm.findClass "com/example/jobwright/jobwright/JobChain$Node" = some m.cls := findClass_of_methodNamed Bd.named
  have hnm := (name_of_methodNamed Bd.named Bd.method).1
  have X0 : Stand p l e ({ frames := 0, cells := 0, slots := 0, locals := 0 } : Room) s m #[(.ref a1)] below meth c s₁ [] 0 0 := Stand.of_body Bd
  have e0 : s₁.heap = h0 := by rw [← hH0, Bd.state]; rfl
  have N0 := Fr.nil n0
  refine own_cast (ef_isEnd m a1) ?_
  show own_Go p e below (fun o U' => ∃ v L, o = .returned v ∧ QisEnd Z a1 v1 h0 n0 v U'.heap L ∧ FrameEnd s o U' L ({ frames := 0, cells := 0, slots := 0, locals := 0 } : Room).cells ({ frames := 0, cells := 0, slots := 0, locals := 0 } : Room).slots) (s₁.setTop (mkF m 0 #[.val (.ref a1)] []))
  refine own_via (fun _ => XS.aloadN X0.here hx rfl (hb hby d14_0) rfl rfl) ?_
  show own_Go p e below _ (s₁.setTop (mkF m 1 #[.val (.ref a1)] [(.ref a1)]))
  obtain ⟨T_1, X_1, e_1, st_1⟩ := getF X0 hx hZ hown (host := "") (Or.inl (own_w hw 62 rfl)) Via.refl e0 F1 (g := (mkF m 1 #[.val (.ref a1)] [(.ref a1)])) rfl rfl (hb hby d14_1)
  refine own_via st_1 ?_
  show own_Go p e below _ (T_1.setTop (mkF m 4 #[.val (.ref a1)] [v1]))
  rcases ref_cases hr1 with rfl | ⟨y_2, rfl⟩
  · refine own_via (fun _ => XS.ifnonnullNo X_1.here hx rfl (hb hby d14_4) rfl) ?_
    show own_Go p e below _ (T_1.setTop (mkF m 7 #[.val (.ref a1)] []))
    refine own_via (fun _ => XS.iconst X_1.here hx rfl (hb hby d14_7)) ?_
    show own_Go p e below _ (T_1.setTop (mkF m 8 #[.val (.ref a1)] [(.int (1 : Int32))]))
    refine own_via (fun _ => XS.goto X_1.here hx rfl (pc0 := 8) (pc' := 12) rfl (hb hby d14_8) (by decide) (by decide)) ?_
    show own_Go p e below _ (T_1.setTop (mkF m 12 #[.val (.ref a1)] [(.int (1 : Int32))]))
    exact own_retv X_1 Bd.notSynchronized hx Bd.returns rfl (Or.inl ⟨rfl, (by simp), _, rfl⟩) (hb hby d14_12) (by decide) (by decide) (by rw [e_1]; exact ⟨(1 : Int32), rfl, N0, (Keep.refl h0 []), (by simp)⟩)
  · refine own_via (fun _ => XS.ifnonnullYes X_1.here hx rfl (pc0 := 4) (pc' := 11) rfl (hb hby d14_4) rfl (by decide) (by decide)) ?_
    show own_Go p e below _ (T_1.setTop (mkF m 11 #[.val (.ref a1)] []))
    refine own_via (fun _ => XS.iconst X_1.here hx rfl (hb hby d14_11)) ?_
    show own_Go p e below _ (T_1.setTop (mkF m 12 #[.val (.ref a1)] [(.int (0 : Int32))]))
    exact own_retv X_1 Bd.notSynchronized hx Bd.returns rfl (Or.inl ⟨rfl, (by simp), _, rfl⟩) (hb hby d14_12) (by decide) (by decide) (by rw [e_1]; exact ⟨(0 : Int32), rfl, N0, (Keep.refl h0 []), (by simp)⟩)
theorem own_two (x y : Int32) : ∀ c ∈ ([nar .char ((x &&& (255 : Int32)).toUInt32.toUInt16.toUInt32.toInt32), nar .char ((y &&& (255 : Int32)).toUInt32.toUInt16.toUInt32.toInt32)] : List Int32), ¬ c < 0 ∧ ¬ (255 : Int32) < c := by
  intro c hc
  simp only [List.mem_cons, List.not_mem_nil, or_false] at hc
  rcases hc with rfl | rfl
  · exact own_chars x
  · exact own_chars y
theorem own_fin {r1 : Value} {A : Prop} [Decidable A] {z1 z : Int32} (h1 : r1 = .null ↔ A) (e1 : z1 = if A then 1 else 0) (e : z = if r1 = .null then 1 else 0) : z = z1 := by
  subst e1 e
  by_cases a : A <;> simp [a, h1]

theorem pd_4 : parseMethodDescriptor "([C)V" = some ⟨[(.array .char)], none⟩ := by decide +kernel
theorem pd_5 : parseMethodDescriptor "(C)Ljava/lang/String;" = some ⟨[.char], some (.object "java/lang/String")⟩ := by decide +kernel
theorem pd_6 : parseMethodDescriptor "(ILjava/lang/String;Ljava/lang/String;)Ljava/lang/String;" = some ⟨[.int, (.object "java/lang/String"), (.object "java/lang/String")], some (.object "java/lang/String")⟩ := by decide +kernel
theorem pd_7 : parseMethodDescriptor "(Ljava/lang/String;Z)V" = some ⟨[(.object "java/lang/String"), .boolean], none⟩ := by decide +kernel
theorem pd_8 : parseMethodDescriptor "(Ljava/lang/String;Ljava/lang/String;Ljava/lang/String;Ljava/lang/String;Lcom/example/jobwright/jobwright/FileOrderSink;I)V" = some ⟨[(.object "java/lang/String"), (.object "java/lang/String"), (.object "java/lang/String"), (.object "java/lang/String"), (.object "com/example/jobwright/jobwright/FileOrderSink"), .int], none⟩ := by decide +kernel
theorem pd_9 : parseMethodDescriptor "()Z" = some ⟨[], some .boolean⟩ := by decide +kernel
theorem ef_0 (m : MethodId) (p1 : Int32) (p2 : Int32) (p3 : Int32) (p4 : Int32) : entryFrame m #[(.int p1), (.int p2), (.int p3), (.int p4)] maxLocals = mkF m 0 #[.val (.int p1), .val (.int p2), .val (.int p3), .val (.int p4), .unset, .unset, .unset, .unset, .unset, .unset, .unset, .unset, .unset, .unset, .unset, .unset, .unset, .unset] [] := by first | (simp [entryFrame, mkF, argsToLocals, Value.category, maxLocals]; done) | rfl
def Q0 (Z : State) (p1 : Int32) (p2 : Int32) (p3 : Int32) (p4 : Int32) (cs : Int32) (h0 : Heap) (n0 : Nat) (v : Option Value) (h : Heap) (L : List Loc) (vm : Vm) : Prop := v = some (.int (1 : Int32)) ∧ Fr n0 L ∧ Keep h0 h []
set_option maxRecDepth 65536 in
set_option maxHeartbeats 40000000 in
theorem rm0 (l : Launch) (Z : State) (a0 : Array Value) (hw : ∀ d ∈ tables_1, d.before a0 Z = true) (ws : List Jvm.Cond) (p1 : Int32) (p2 : Int32) (p3 : Int32) (p4 : Int32) (cs : Int32) (h0 : Heap) (n0 : Nat) (Z0 : n0 ≤ h0.size) (O0 : Old Z n0 h0) (Scs : Sta Z Z.heap "java/lang/String" "COMPACT_STRINGS" "Z" (.int cs)) (hcs : ¬ (cs = (0 : Int32))) :
    MetFree l x (head1 (Jvm.Cond.code x code maxLocals ret :: ws) room_1) (fun a U => a = #[(.int p1), (.int p2), (.int p3), (.int p4)] ∧ Z.Warmed39 U.vm ∧ U.heap = h0 ∧ True) (fun _ _ _ _ _ => True) (fun _ U o U' => ∃ v L, o = .returned v ∧ Q0 Z p1 p2 p3 p4 cs h0 n0 v U'.heap L U'.vm ∧ ReturnedEndW U o U' L room_1.cells room_1.slots) := by
  refine MetFree.of_bodySF (plainFor_of_name pn_com_example_jobwright_jobwright_NodeIsEndPinLaw) hisR ?_
  intro p e s m args below meth c s₁ Bd hml0 hP hK
  obtain ⟨rfl, hZ, hH0, J0⟩ := hP
  have hx := Bd.exec
  have hby := Bd.bytes
  have hml : c.maxLocals = 18 := hml0
  have hown : s.vm.findClass "com/example/jobwright/jobwright/NodeIsEndPinLaw" = some m.cls := findClass_of_methodNamed Bd.named
  have hnm := (name_of_methodNamed Bd.named Bd.method).1
  have X0 : Stand p l e room_1 (s.setVm s.vm) m #[(.int p1), (.int p2), (.int p3), (.int p4)] below meth c s₁ [] 0 0 := Stand.of_body Bd
  have hS0 : s.Since s.vm 0 := (State.WarmedH.refl s).since 0
  have e0 : s₁.heap = h0 := by rw [← hH0, Bd.state]; rfl
  have N0 := Fr.nil n0
  refine own_cast (ef_0 m p1 p2 p3 p4) ?_
  show own_Go p e below (fun o U' => ∃ v L, o = .returned v ∧ Q0 Z p1 p2 p3 p4 cs h0 n0 v U'.heap L U'.vm ∧ ReturnedEndW s o U' L room_1.cells room_1.slots) (s₁.setTop (mkF m 0 #[.val (.int p1), .val (.int p2), .val (.int p3), .val (.int p4), .unset, .unset, .unset, .unset, .unset, .unset, .unset, .unset, .unset, .unset, .unset, .unset, .unset, .unset] []))
  refine own_via (fun _ => XS.iconst X0.here hx rfl (hb hby at_0)) ?_
  show own_Go p e below _ (s₁.setTop (mkF m 1 #[.val (.int p1), .val (.int p2), .val (.int p3), .val (.int p4), .unset, .unset, .unset, .unset, .unset, .unset, .unset, .unset, .unset, .unset, .unset, .unset, .unset, .unset] [(.int (2 : Int32))]))
  obtain ⟨T_1, h_1, k_1, X_1, e_1, E_1, A_1, st_1⟩ := newP X0 hx hZ (own_w hw 0 rfl) e0 (g := (mkF m 1 #[.val (.int p1), .val (.int p2), .val (.int p3), .val (.int p4), .unset, .unset, .unset, .unset, .unset, .unset, .unset, .unset, .unset, .unset, .unset, .unset, .unset, .unset] [(.int (2 : Int32))])) rfl (hb hby at_1) rfl (by decide) (cap := 2) (by decide) (by decide) (by decide) (by decide)
  obtain ⟨b_1, g_1⟩ : ∃ z, z = h0.size := ⟨_, rfl⟩
  rw [← g_1] at A_1 st_1
  have V_1 : Arv Z h_1 b_1 k_1 .char (2 : Int32) [(.int (0 : Int32)), (.int (0 : Int32))] (.int (0 : Int32)) := (Arv.new A_1 (by decide)).pad (pad_rep [] (.int (0 : Int32)) 2)
  refine own_via st_1 ?_
  show own_Go p e below _ (T_1.setTop (mkF m 3 #[.val (.int p1), .val (.int p2), .val (.int p3), .val (.int p4), .unset, .unset, .unset, .unset, .unset, .unset, .unset, .unset, .unset, .unset, .unset, .unset, .unset, .unset] [(.ref b_1)]))
  refine own_via (fun _ => XS.astore X_1.here hx rfl (hb hby at_3) rfl rfl (l' := #[.val (.int p1), .val (.int p2), .val (.int p3), .val (.int p4), .val (.ref b_1), .unset, .unset, .unset, .unset, .unset, .unset, .unset, .unset, .unset, .unset, .unset, .unset, .unset]) rfl) ?_
  show own_Go p e below _ (T_1.setTop (mkF m 5 #[.val (.int p1), .val (.int p2), .val (.int p3), .val (.int p4), .val (.ref b_1), .unset, .unset, .unset, .unset, .unset, .unset, .unset, .unset, .unset, .unset, .unset, .unset, .unset] []))
  refine own_via (fun _ => XS.aload X_1.here hx rfl (hb hby at_5) rfl rfl) ?_
  show own_Go p e below _ (T_1.setTop (mkF m 7 #[.val (.int p1), .val (.int p2), .val (.int p3), .val (.int p4), .val (.ref b_1), .unset, .unset, .unset, .unset, .unset, .unset, .unset, .unset, .unset, .unset, .unset, .unset, .unset] [(.ref b_1)]))
  refine own_via (fun _ => XS.iconst X_1.here hx rfl (hb hby at_7)) ?_
  show own_Go p e below _ (T_1.setTop (mkF m 8 #[.val (.int p1), .val (.int p2), .val (.int p3), .val (.int p4), .val (.ref b_1), .unset, .unset, .unset, .unset, .unset, .unset, .unset, .unset, .unset, .unset, .unset, .unset, .unset] [(.int (0 : Int32)), (.ref b_1)]))
  refine own_via (fun _ => XS.iloadN X_1.here hx rfl (hb hby at_8) rfl) ?_
  show own_Go p e below _ (T_1.setTop (mkF m 9 #[.val (.int p1), .val (.int p2), .val (.int p3), .val (.int p4), .val (.ref b_1), .unset, .unset, .unset, .unset, .unset, .unset, .unset, .unset, .unset, .unset, .unset, .unset, .unset] [(.int p2), (.int (0 : Int32)), (.ref b_1)]))
  refine own_via (fun _ => XS.sipush X_1.here hx rfl (hb hby at_9)) ?_
  show own_Go p e below _ (T_1.setTop (mkF m 12 #[.val (.int p1), .val (.int p2), .val (.int p3), .val (.int p4), .val (.ref b_1), .unset, .unset, .unset, .unset, .unset, .unset, .unset, .unset, .unset, .unset, .unset, .unset, .unset] [(.int (255 : Int32)), (.int p2), (.int (0 : Int32)), (.ref b_1)]))
  refine own_via (fun _ => XS.iand X_1.here hx rfl (hb hby at_12) rfl) ?_
  show own_Go p e below _ (T_1.setTop (mkF m 13 #[.val (.int p1), .val (.int p2), .val (.int p3), .val (.int p4), .val (.ref b_1), .unset, .unset, .unset, .unset, .unset, .unset, .unset, .unset, .unset, .unset, .unset, .unset, .unset] [(.int (p2 &&& (255 : Int32))), (.int (0 : Int32)), (.ref b_1)]))
  refine own_via (fun _ => XS.i2c X_1.here hx rfl (hb hby at_13) rfl) ?_
  show own_Go p e below _ (T_1.setTop (mkF m 14 #[.val (.int p1), .val (.int p2), .val (.int p3), .val (.int p4), .val (.ref b_1), .unset, .unset, .unset, .unset, .unset, .unset, .unset, .unset, .unset, .unset, .unset, .unset, .unset] [(.int ((p2 &&& (255 : Int32)).toUInt32.toUInt16.toUInt32.toInt32)), (.int (0 : Int32)), (.ref b_1)]))
  obtain ⟨cl_2, Ar_2, q_2, S_2, M_2, H_2, G_2⟩ := V_1
  obtain ⟨T_2, h_2, X_2, e_2, W_2, st_2⟩ := stC X_1 hx hZ e_1 Ar_2 (j := (0 : Int32)) (inb_of S_2 ⟨by decide, by decide⟩) (g := (mkF m 14 #[.val (.int p1), .val (.int p2), .val (.int p3), .val (.int p4), .val (.ref b_1), .unset, .unset, .unset, .unset, .unset, .unset, .unset, .unset, .unset, .unset, .unset, .unset, .unset] [(.int ((p2 &&& (255 : Int32)).toUInt32.toUInt16.toUInt32.toInt32)), (.int (0 : Int32)), (.ref b_1)])) rfl rfl (hb hby at_14)
  have V_2 : Arv Z h_2 b_1 k_1 .char (2 : Int32) [(.int (nar .char ((p2 &&& (255 : Int32)).toUInt32.toUInt16.toUInt32.toInt32))), (.int (0 : Int32))] (.int (0 : Int32)) := Arv.set Ar_2 q_2 S_2 M_2 H_2 G_2 (fits_nar_char _) W_2 0 rfl (Nat.le_of_ble_eq_true rfl)
  have N_2 := Fr.snoc X_2 N0 (Nat.le_trans Z0 (Nat.le_of_eq g_1.symm))
  refine own_via st_2 ?_
  show own_Go p e below _ (T_2.setTop (mkF m 15 #[.val (.int p1), .val (.int p2), .val (.int p3), .val (.int p4), .val (.ref b_1), .unset, .unset, .unset, .unset, .unset, .unset, .unset, .unset, .unset, .unset, .unset, .unset, .unset] []))
  refine own_via (fun _ => XS.aload X_2.here hx rfl (hb hby at_15) rfl rfl) ?_
  show own_Go p e below _ (T_2.setTop (mkF m 17 #[.val (.int p1), .val (.int p2), .val (.int p3), .val (.int p4), .val (.ref b_1), .unset, .unset, .unset, .unset, .unset, .unset, .unset, .unset, .unset, .unset, .unset, .unset, .unset] [(.ref b_1)]))
  refine own_via (fun _ => XS.iconst X_2.here hx rfl (hb hby at_17)) ?_
  show own_Go p e below _ (T_2.setTop (mkF m 18 #[.val (.int p1), .val (.int p2), .val (.int p3), .val (.int p4), .val (.ref b_1), .unset, .unset, .unset, .unset, .unset, .unset, .unset, .unset, .unset, .unset, .unset, .unset, .unset] [(.int (1 : Int32)), (.ref b_1)]))
  refine own_via (fun _ => XS.iloadN X_2.here hx rfl (hb hby at_18) rfl) ?_
  show own_Go p e below _ (T_2.setTop (mkF m 19 #[.val (.int p1), .val (.int p2), .val (.int p3), .val (.int p4), .val (.ref b_1), .unset, .unset, .unset, .unset, .unset, .unset, .unset, .unset, .unset, .unset, .unset, .unset, .unset] [(.int p3), (.int (1 : Int32)), (.ref b_1)]))
  refine own_via (fun _ => XS.sipush X_2.here hx rfl (hb hby at_19)) ?_
  show own_Go p e below _ (T_2.setTop (mkF m 22 #[.val (.int p1), .val (.int p2), .val (.int p3), .val (.int p4), .val (.ref b_1), .unset, .unset, .unset, .unset, .unset, .unset, .unset, .unset, .unset, .unset, .unset, .unset, .unset] [(.int (255 : Int32)), (.int p3), (.int (1 : Int32)), (.ref b_1)]))
  refine own_via (fun _ => XS.iand X_2.here hx rfl (hb hby at_22) rfl) ?_
  show own_Go p e below _ (T_2.setTop (mkF m 23 #[.val (.int p1), .val (.int p2), .val (.int p3), .val (.int p4), .val (.ref b_1), .unset, .unset, .unset, .unset, .unset, .unset, .unset, .unset, .unset, .unset, .unset, .unset, .unset] [(.int (p3 &&& (255 : Int32))), (.int (1 : Int32)), (.ref b_1)]))
  refine own_via (fun _ => XS.i2c X_2.here hx rfl (hb hby at_23) rfl) ?_
  show own_Go p e below _ (T_2.setTop (mkF m 24 #[.val (.int p1), .val (.int p2), .val (.int p3), .val (.int p4), .val (.ref b_1), .unset, .unset, .unset, .unset, .unset, .unset, .unset, .unset, .unset, .unset, .unset, .unset, .unset] [(.int ((p3 &&& (255 : Int32)).toUInt32.toUInt16.toUInt32.toInt32)), (.int (1 : Int32)), (.ref b_1)]))
  obtain ⟨cl_3, Ar_3, q_3, S_3, M_3, H_3, G_3⟩ := V_2
  obtain ⟨T_3, h_3, X_3, e_3, W_3, st_3⟩ := stC X_2 hx hZ e_2 Ar_3 (j := (1 : Int32)) (inb_of S_3 ⟨by decide, by decide⟩) (g := (mkF m 24 #[.val (.int p1), .val (.int p2), .val (.int p3), .val (.int p4), .val (.ref b_1), .unset, .unset, .unset, .unset, .unset, .unset, .unset, .unset, .unset, .unset, .unset, .unset, .unset] [(.int ((p3 &&& (255 : Int32)).toUInt32.toUInt16.toUInt32.toInt32)), (.int (1 : Int32)), (.ref b_1)])) rfl rfl (hb hby at_24)
  have V_3 : Arv Z h_3 b_1 k_1 .char (2 : Int32) [(.int (nar .char ((p2 &&& (255 : Int32)).toUInt32.toUInt16.toUInt32.toInt32))), (.int (nar .char ((p3 &&& (255 : Int32)).toUInt32.toUInt16.toUInt32.toInt32)))] (.int (0 : Int32)) := Arv.set Ar_3 q_3 S_3 M_3 H_3 G_3 (fits_nar_char _) W_3 1 rfl (Nat.le_of_ble_eq_true rfl)
  have N_3 := Fr.snoc X_3 N_2 (Nat.le_trans Z0 (Nat.le_of_eq g_1.symm))
  refine own_via st_3 ?_
  show own_Go p e below _ (T_3.setTop (mkF m 25 #[.val (.int p1), .val (.int p2), .val (.int p3), .val (.int p4), .val (.ref b_1), .unset, .unset, .unset, .unset, .unset, .unset, .unset, .unset, .unset, .unset, .unset, .unset, .unset] []))
  obtain ⟨T_4, h_4, X_4, e_4, E_4, A_4, D_4, -, st_4⟩ := newO X_3 hx hZ hown (own_w hw 1 rfl) (own_w hw 2 rfl) (own_w hw 3 rfl) e_3 (g := (mkF m 25 #[.val (.int p1), .val (.int p2), .val (.int p3), .val (.int p4), .val (.ref b_1), .unset, .unset, .unset, .unset, .unset, .unset, .unset, .unset, .unset, .unset, .unset, .unset, .unset] [])) rfl (hb hby at_25) (by decide) (by decide)
  obtain ⟨b_4, g_4⟩ : ∃ z, z = h_3.size := ⟨_, rfl⟩
  rw [← g_4] at A_4 D_4 st_4
  have F_5 : Fld Z h_4 b_4 "java/lang/String" "coder" "B" (.int (0 : Int32)) := D_4 (Or.inr (own_w hw 27 rfl)) (ty := .byte) (by decide)
  have F_6 : Fld Z h_4 b_4 "java/lang/String" "value" "[B" .null := D_4 (Or.inr (own_w hw 29 rfl)) (ty := (.array .byte)) (by decide)
  refine own_via st_4 ?_
  show own_Go p e below _ (T_4.setTop (mkF m 28 #[.val (.int p1), .val (.int p2), .val (.int p3), .val (.int p4), .val (.ref b_1), .unset, .unset, .unset, .unset, .unset, .unset, .unset, .unset, .unset, .unset, .unset, .unset, .unset] [(.ref b_4)]))
  refine own_via (fun _ => XS.dup X_4.here hx rfl (hb hby at_28) rfl rfl) ?_
  show own_Go p e below _ (T_4.setTop (mkF m 29 #[.val (.int p1), .val (.int p2), .val (.int p3), .val (.int p4), .val (.ref b_1), .unset, .unset, .unset, .unset, .unset, .unset, .unset, .unset, .unset, .unset, .unset, .unset, .unset] [(.ref b_4), (.ref b_4)]))
  refine own_via (fun _ => XS.aload X_4.here hx rfl (hb hby at_29) rfl rfl) ?_
  show own_Go p e below _ (T_4.setTop (mkF m 31 #[.val (.int p1), .val (.int p2), .val (.int p3), .val (.int p4), .val (.ref b_1), .unset, .unset, .unset, .unset, .unset, .unset, .unset, .unset, .unset, .unset, .unset, .unset, .unset] [(.ref b_1), (.ref b_4), (.ref b_4)]))
  have K_7 : Keep h_3 h_4 [] := (Keep.refl h_3 []).ext E_4
  have K_8 : Keep h0 h_1 [] := (Keep.refl h0 []).ext E_1
  have K_9 : Keep h0 h_2 [] := Keep.wr (ws := []) K_8 W_2 (Or.inr (Nat.le_of_eq g_1.symm))
  have K_10 : Keep h0 h_3 [] := Keep.wr (ws := []) K_9 W_3 (Or.inr (Nat.le_of_eq g_1.symm))
  have K_11 : Keep h0 h_4 [] := K_10.ext E_4
  obtain ⟨_, _, ⟨T_12, L_12, k_12, n_12⟩, -, X_12, ⟨Lc_12, hQ_12, l_12, y_12, z_12⟩, st_12⟩ := X_4.specialBack hx (y := (⟨"java/lang/String", "<init>", "([C)V"⟩ : MethodName)) rfl hown (mvT hZ (own_w hw 4 rfl)) (mvT hZ (own_w hw 5 rfl)) (mvT hZ (own_w hw 6 rfl)) (by decide) (StrChars.Road.backV (W := 1) hZ (own_hwords hw) (kI := 4) (own_w hw 2 rfl) (cs := ([(nar .char ((p2 &&& (255 : Int32)).toUInt32.toUInt16.toUInt32.toInt32)), (nar .char ((p3 &&& (255 : Int32)).toUInt32.toUInt16.toUInt32.toInt32))] : List Int32)) (bs := ([(nar .char ((p2 &&& (255 : Int32)).toUInt32.toUInt16.toUInt32.toInt32)), (nar .char ((p3 &&& (255 : Int32)).toUInt32.toUInt16.toUInt32.toInt32))] : List Int32).map (fun c => c.toInt8.toInt32)) (n := 2) (Nat.le_trans Z0 (Nat.le_trans K_10.1 (Nat.le_of_eq g_4.symm))) (Nat.le_trans Z0 K_11.1) A_4 F_6 F_5 (V_3.keep K_7 nin0) (Scs.ext (O0.keep K_11 all0).2) hcs rfl rfl (by decide) (by decide) (own_two p2 p3) rfl (by decide) (by decide)) (g := (mkF m 31 #[.val (.int p1), .val (.int p2), .val (.int p3), .val (.int p4), .val (.ref b_1), .unset, .unset, .unset, .unset, .unset, .unset, .unset, .unset, .unset, .unset, .unset, .unset, .unset] [(.ref b_1), (.ref b_4), (.ref b_4)])) rfl (by rw [hml]; rfl) (Steps.refl _) (a := b_4) (argsL := [(.ref b_1)]) (rest := [(.ref b_4)]) (lenOf pd_4 rfl) rfl (by show 2 * 0 + _ ≤ _; exact Nat.le_of_eq rfl) (hb hby at_31) (fun _ _ => ⟨rfl, e_4, (by decide : 2 + 1 ≤ _), (by decide : 6 + 2 ≤ _)⟩)
  dsimp only [Pt.U, Pt.locs, Pt.cells, Pt.slots] at X_12 l_12 y_12 z_12 st_12 hQ_12
  subst l_12 y_12 z_12
  obtain ⟨rfl, Nq_12, K_12q, EX_12, FC_12, t_12, kb_12, -, ft_12, -, FV_12, FA_12⟩ := hQ_12
  have N_12 := Fr.app N_3 Nq_12
  refine own_via (fun _ k => st_12.trans k) ?_
  show own_Go p e below _ (T_12.setTop (mkF m 34 #[.val (.int p1), .val (.int p2), .val (.int p3), .val (.int p4), .val (.ref b_1), .unset, .unset, .unset, .unset, .unset, .unset, .unset, .unset, .unset, .unset, .unset, .unset, .unset] [(.ref b_4)]))
  refine own_via (fun _ => XS.astore X_12.here hx rfl (hb hby at_34) rfl rfl (l' := #[.val (.int p1), .val (.int p2), .val (.int p3), .val (.int p4), .val (.ref b_1), .val (.ref b_4), .unset, .unset, .unset, .unset, .unset, .unset, .unset, .unset, .unset, .unset, .unset, .unset]) rfl) ?_
  show own_Go p e below _ (T_12.setTop (mkF m 36 #[.val (.int p1), .val (.int p2), .val (.int p3), .val (.int p4), .val (.ref b_1), .val (.ref b_4), .unset, .unset, .unset, .unset, .unset, .unset, .unset, .unset, .unset, .unset, .unset, .unset] []))
  refine own_via (fun _ => XS.iloadN X_12.here hx rfl (hb hby at_36) rfl) ?_
  show own_Go p e below _ (T_12.setTop (mkF m 37 #[.val (.int p1), .val (.int p2), .val (.int p3), .val (.int p4), .val (.ref b_1), .val (.ref b_4), .unset, .unset, .unset, .unset, .unset, .unset, .unset, .unset, .unset, .unset, .unset, .unset] [(.int p3)]))
  refine own_via (fun _ => XS.sipush X_12.here hx rfl (hb hby at_37)) ?_
  show own_Go p e below _ (T_12.setTop (mkF m 40 #[.val (.int p1), .val (.int p2), .val (.int p3), .val (.int p4), .val (.ref b_1), .val (.ref b_4), .unset, .unset, .unset, .unset, .unset, .unset, .unset, .unset, .unset, .unset, .unset, .unset] [(.int (255 : Int32)), (.int p3)]))
  refine own_via (fun _ => XS.iand X_12.here hx rfl (hb hby at_40) rfl) ?_
  show own_Go p e below _ (T_12.setTop (mkF m 41 #[.val (.int p1), .val (.int p2), .val (.int p3), .val (.int p4), .val (.ref b_1), .val (.ref b_4), .unset, .unset, .unset, .unset, .unset, .unset, .unset, .unset, .unset, .unset, .unset, .unset] [(.int (p3 &&& (255 : Int32)))]))
  refine own_via (fun _ => XS.i2c X_12.here hx rfl (hb hby at_41) rfl) ?_
  show own_Go p e below _ (T_12.setTop (mkF m 42 #[.val (.int p1), .val (.int p2), .val (.int p3), .val (.int p4), .val (.ref b_1), .val (.ref b_4), .unset, .unset, .unset, .unset, .unset, .unset, .unset, .unset, .unset, .unset, .unset, .unset] [(.int ((p3 &&& (255 : Int32)).toUInt32.toUInt16.toUInt32.toInt32))]))
  have K_13 : Keep h0 T_12.heap [] := Keep.trans (ws := []) K_11 K_12q (allS (Or.inr (Nat.le_trans K_10.1 (Nat.le_of_eq g_4.symm))) all0)
  obtain ⟨_, _, ⟨T_14, L_14, k_14, n_14⟩, -, X_14, ⟨Lc_14, hQ_14, l_14, y_14, z_14⟩, st_14⟩ := Jvm.LawKit.callS X_12 hx (y := (⟨"java/lang/String", "valueOf", "(C)Ljava/lang/String;"⟩ : MethodName)) hown (mvT hZ (own_w hw 30 rfl)) (mvT hZ (own_w hw 31 rfl)) (mvT hZ (own_w hw 3 rfl)) (mvT hZ (own_w hw 32 rfl)) (by decide) (backOf (W := 0) (rmvalueOf l Z a0 hw [] ((p3 &&& (255 : Int32)).toUInt32.toUInt16.toUInt32.toInt32) cs T_12.heap n0 (Nat.le_trans Z0 K_13.1) (O0.keep K_13 all0) Scs hcs (own_byte p3)) hZ (own_w hw 32 rfl) (own_w hw 3 rfl) (by decide) (by decide)) (g := (mkF m 42 #[.val (.int p1), .val (.int p2), .val (.int p3), .val (.int p4), .val (.ref b_1), .val (.ref b_4), .unset, .unset, .unset, .unset, .unset, .unset, .unset, .unset, .unset, .unset, .unset, .unset] [(.int ((p3 &&& (255 : Int32)).toUInt32.toUInt16.toUInt32.toInt32))])) rfl (by rw [hml]; rfl) (argsL := [(.int ((p3 &&& (255 : Int32)).toUInt32.toUInt16.toUInt32.toInt32))]) (rest := []) (lenOf pd_5 rfl) rfl (by show 2 * 0 + _ ≤ _; exact Nat.le_of_eq rfl) (hb hby at_42) (fun _ _ => ⟨rfl, rfl, (by decide : 3 + 2 ≤ _), (by decide : 8 + 5 ≤ _)⟩)
  dsimp only [Pt.U, Pt.locs, Pt.cells, Pt.slots] at X_14 l_14 y_14 z_14 st_14 hQ_14
  subst l_14 y_14 z_14
  obtain ⟨r_15, r_16, u_17, rfl, Nq_14, K_14q, q_14_0, q_14_1, q_14_2, q_14_3, q_14_4, q_14_5⟩ := hQ_14
  have N_14 := Fr.app N_12 Nq_14
  refine own_via st_14 ?_
  show own_Go p e below _ (T_14.setTop (mkF m 45 #[.val (.int p1), .val (.int p2), .val (.int p3), .val (.int p4), .val (.ref b_1), .val (.ref b_4), .unset, .unset, .unset, .unset, .unset, .unset, .unset, .unset, .unset, .unset, .unset, .unset] [(.ref r_15)]))
  refine own_via (fun _ => XS.astore X_14.here hx rfl (hb hby at_45) rfl rfl (l' := #[.val (.int p1), .val (.int p2), .val (.int p3), .val (.int p4), .val (.ref b_1), .val (.ref b_4), .val (.ref r_15), .unset, .unset, .unset, .unset, .unset, .unset, .unset, .unset, .unset, .unset, .unset]) rfl) ?_
  show own_Go p e below _ (T_14.setTop (mkF m 47 #[.val (.int p1), .val (.int p2), .val (.int p3), .val (.int p4), .val (.ref b_1), .val (.ref b_4), .val (.ref r_15), .unset, .unset, .unset, .unset, .unset, .unset, .unset, .unset, .unset, .unset, .unset] []))
  refine own_via (fun _ => XS.iloadN X_14.here hx rfl (hb hby at_47) rfl) ?_
  show own_Go p e below _ (T_14.setTop (mkF m 48 #[.val (.int p1), .val (.int p2), .val (.int p3), .val (.int p4), .val (.ref b_1), .val (.ref b_4), .val (.ref r_15), .unset, .unset, .unset, .unset, .unset, .unset, .unset, .unset, .unset, .unset, .unset] [(.int p1)]))
  refine own_via (fun _ => XS.iconst X_14.here hx rfl (hb hby at_48)) ?_
  show own_Go p e below _ (T_14.setTop (mkF m 49 #[.val (.int p1), .val (.int p2), .val (.int p3), .val (.int p4), .val (.ref b_1), .val (.ref b_4), .val (.ref r_15), .unset, .unset, .unset, .unset, .unset, .unset, .unset, .unset, .unset, .unset, .unset] [(.int (3 : Int32)), (.int p1)]))
  refine own_via (fun _ => XS.iand X_14.here hx rfl (hb hby at_49) rfl) ?_
  show own_Go p e below _ (T_14.setTop (mkF m 50 #[.val (.int p1), .val (.int p2), .val (.int p3), .val (.int p4), .val (.ref b_1), .val (.ref b_4), .val (.ref r_15), .unset, .unset, .unset, .unset, .unset, .unset, .unset, .unset, .unset, .unset, .unset] [(.int (p1 &&& (3 : Int32)))]))
  refine own_via (fun _ => XS.istore X_14.here hx rfl (hb hby at_50) rfl (l' := #[.val (.int p1), .val (.int p2), .val (.int p3), .val (.int p4), .val (.ref b_1), .val (.ref b_4), .val (.ref r_15), .val (.int (p1 &&& (3 : Int32))), .unset, .unset, .unset, .unset, .unset, .unset, .unset, .unset, .unset, .unset]) rfl) ?_
  show own_Go p e below _ (T_14.setTop (mkF m 52 #[.val (.int p1), .val (.int p2), .val (.int p3), .val (.int p4), .val (.ref b_1), .val (.ref b_4), .val (.ref r_15), .val (.int (p1 &&& (3 : Int32))), .unset, .unset, .unset, .unset, .unset, .unset, .unset, .unset, .unset, .unset] []))
  refine own_via (fun _ => XS.iload X_14.here hx rfl (hb hby at_52) rfl) ?_
  show own_Go p e below _ (T_14.setTop (mkF m 54 #[.val (.int p1), .val (.int p2), .val (.int p3), .val (.int p4), .val (.ref b_1), .val (.ref b_4), .val (.ref r_15), .val (.int (p1 &&& (3 : Int32))), .unset, .unset, .unset, .unset, .unset, .unset, .unset, .unset, .unset, .unset] [(.int (p1 &&& (3 : Int32)))]))
  obtain ⟨z8, ez8⟩ : ∃ z : Int32, z = (if (p1 &&& (3 : Int32)) = (0 : Int32) then (1 : Int32) else (0 : Int32)) := ⟨_, rfl⟩
  refine own_seq (B := T_14.setTop (mkF m 62 #[.val (.int p1), .val (.int p2), .val (.int p3), .val (.int p4), .val (.ref b_1), .val (.ref b_4), .val (.ref r_15), .val (.int (p1 &&& (3 : Int32))), .unset, .unset, .unset, .unset, .unset, .unset, .unset, .unset, .unset, .unset] [(.int z8)])) (fun kz => ?_) ?_
  · by_cases hv_18 : (p1 &&& (3 : Int32)) = (0 : Int32)
    · refine own_via (fun _ => XS.ifNo X_14.here hx rfl (hb hby at_54) rfl ((if0 _ _).trans (teq (hv_18 : (p1 &&& (3 : Int32)) = (0 : Int32))).2)) ?_
      show own_Go p e below _ (T_14.setTop (mkF m 57 #[.val (.int p1), .val (.int p2), .val (.int p3), .val (.int p4), .val (.ref b_1), .val (.ref b_4), .val (.ref r_15), .val (.int (p1 &&& (3 : Int32))), .unset, .unset, .unset, .unset, .unset, .unset, .unset, .unset, .unset, .unset] []))
      refine own_via (fun _ => XS.iconst X_14.here hx rfl (hb hby at_57)) ?_
      show own_Go p e below _ (T_14.setTop (mkF m 58 #[.val (.int p1), .val (.int p2), .val (.int p3), .val (.int p4), .val (.ref b_1), .val (.ref b_4), .val (.ref r_15), .val (.int (p1 &&& (3 : Int32))), .unset, .unset, .unset, .unset, .unset, .unset, .unset, .unset, .unset, .unset] [(.int (1 : Int32))]))
      refine own_via (fun _ => XS.goto X_14.here hx rfl (pc0 := 58) (pc' := 62) rfl (hb hby at_58) (by decide) (by decide)) ?_
      show own_Go p e below _ (T_14.setTop (mkF m 62 #[.val (.int p1), .val (.int p2), .val (.int p3), .val (.int p4), .val (.ref b_1), .val (.ref b_4), .val (.ref r_15), .val (.int (p1 &&& (3 : Int32))), .unset, .unset, .unset, .unset, .unset, .unset, .unset, .unset, .unset, .unset] [(.int (1 : Int32))]))
      rw [if_pos hv_18] at ez8
      subst ez8
      exact kz
    · refine own_via (fun _ => XS.ifYes X_14.here hx rfl (pc0 := 54) (pc' := 61) rfl (hb hby at_54) rfl ((if0 _ _).trans (feq (hv_18 : ¬ ((p1 &&& (3 : Int32)) = (0 : Int32)))).2) (by decide) (by decide)) ?_
      show own_Go p e below _ (T_14.setTop (mkF m 61 #[.val (.int p1), .val (.int p2), .val (.int p3), .val (.int p4), .val (.ref b_1), .val (.ref b_4), .val (.ref r_15), .val (.int (p1 &&& (3 : Int32))), .unset, .unset, .unset, .unset, .unset, .unset, .unset, .unset, .unset, .unset] []))
      refine own_via (fun _ => XS.iconst X_14.here hx rfl (hb hby at_61)) ?_
      show own_Go p e below _ (T_14.setTop (mkF m 62 #[.val (.int p1), .val (.int p2), .val (.int p3), .val (.int p4), .val (.ref b_1), .val (.ref b_4), .val (.ref r_15), .val (.int (p1 &&& (3 : Int32))), .unset, .unset, .unset, .unset, .unset, .unset, .unset, .unset, .unset, .unset] [(.int (0 : Int32))]))
      rw [if_neg hv_18] at ez8
      subst ez8
      exact kz
  show own_Go p e below _ (T_14.setTop (mkF m 62 #[.val (.int p1), .val (.int p2), .val (.int p3), .val (.int p4), .val (.ref b_1), .val (.ref b_4), .val (.ref r_15), .val (.int (p1 &&& (3 : Int32))), .unset, .unset, .unset, .unset, .unset, .unset, .unset, .unset, .unset, .unset] [(.int z8)]))
  refine own_via (fun _ => XS.istore X_14.here hx rfl (hb hby at_62) rfl (l' := #[.val (.int p1), .val (.int p2), .val (.int p3), .val (.int p4), .val (.ref b_1), .val (.ref b_4), .val (.ref r_15), .val (.int (p1 &&& (3 : Int32))), .val (.int z8), .unset, .unset, .unset, .unset, .unset, .unset, .unset, .unset, .unset]) rfl) ?_
  show own_Go p e below _ (T_14.setTop (mkF m 64 #[.val (.int p1), .val (.int p2), .val (.int p3), .val (.int p4), .val (.ref b_1), .val (.ref b_4), .val (.ref r_15), .val (.int (p1 &&& (3 : Int32))), .val (.int z8), .unset, .unset, .unset, .unset, .unset, .unset, .unset, .unset, .unset] []))
  refine own_via (fun _ => XS.iload X_14.here hx rfl (hb hby at_64) rfl) ?_
  show own_Go p e below _ (T_14.setTop (mkF m 66 #[.val (.int p1), .val (.int p2), .val (.int p3), .val (.int p4), .val (.ref b_1), .val (.ref b_4), .val (.ref r_15), .val (.int (p1 &&& (3 : Int32))), .val (.int z8), .unset, .unset, .unset, .unset, .unset, .unset, .unset, .unset, .unset] [(.int (p1 &&& (3 : Int32)))]))
  refine own_via (fun _ => XS.aload X_14.here hx rfl (hb hby at_66) rfl rfl) ?_
  show own_Go p e below _ (T_14.setTop (mkF m 68 #[.val (.int p1), .val (.int p2), .val (.int p3), .val (.int p4), .val (.ref b_1), .val (.ref b_4), .val (.ref r_15), .val (.int (p1 &&& (3 : Int32))), .val (.int z8), .unset, .unset, .unset, .unset, .unset, .unset, .unset, .unset, .unset] [(.ref r_15), (.int (p1 &&& (3 : Int32)))]))
  refine own_via (fun _ => XS.aload X_14.here hx rfl (hb hby at_68) rfl rfl) ?_
  show own_Go p e below _ (T_14.setTop (mkF m 70 #[.val (.int p1), .val (.int p2), .val (.int p3), .val (.int p4), .val (.ref b_1), .val (.ref b_4), .val (.ref r_15), .val (.int (p1 &&& (3 : Int32))), .val (.int z8), .unset, .unset, .unset, .unset, .unset, .unset, .unset, .unset, .unset] [(.ref b_4), (.ref r_15), (.int (p1 &&& (3 : Int32)))]))
  have K_19 : Keep h0 T_14.heap [] := Keep.trans (ws := []) K_13 K_14q all0
  obtain ⟨_, _, ⟨T_20, L_20, k_20, n_20⟩, -, Xc_20, hSc_20, hgc_20, ⟨Lc_20, hQ_20, l_20, y_20, z_20⟩, st_20⟩ := callSS X_14 hx (y := (⟨"com/example/jobwright/jobwright/NodeIsEndPinLaw", "pick", "(ILjava/lang/String;Ljava/lang/String;)Ljava/lang/String;"⟩ : MethodName)) hown (mvT hZ (own_w hw 44 rfl)) (mvT hZ (own_w hw 45 rfl)) (mvT hZ (own_w hw 46 rfl)) (mvT hZ (own_w hw 47 rfl)) (by decide) (own_backS (J := fun _ => True) (W := 0) (rmpick l Z a0 hw [] (p1 &&& (3 : Int32)) r_15 b_4 T_14.heap n0 (Nat.le_trans Z0 K_19.1) ) hZ (own_w hw 47 rfl) (own_w hw 46 rfl) (by decide) (by decide)) (g := (mkF m 70 #[.val (.int p1), .val (.int p2), .val (.int p3), .val (.int p4), .val (.ref b_1), .val (.ref b_4), .val (.ref r_15), .val (.int (p1 &&& (3 : Int32))), .val (.int z8), .unset, .unset, .unset, .unset, .unset, .unset, .unset, .unset, .unset] [(.ref b_4), (.ref r_15), (.int (p1 &&& (3 : Int32)))])) rfl (by rw [hml]; rfl) (argsL := [(.int (p1 &&& (3 : Int32))), (.ref r_15), (.ref b_4)]) (rest := []) (lenOf pd_6 rfl) rfl (by show 2 * 0 + _ ≤ _; exact Nat.le_of_eq rfl) (hb hby at_70) (fun _ hW1 => ⟨rfl, rfl, trivial, (by decide : 5 + 2 ≤ _), (by decide : 13 + 4 ≤ _)⟩)
  dsimp only [Pt.U, Pt.locs, Pt.cells, Pt.slots] at Xc_20 hSc_20 hgc_20 l_20 y_20 z_20 st_20 hQ_20
  subst l_20 y_20 z_20
  obtain ⟨X_20, hS_20, hZ_20, ho_20⟩ := rebS hS0 (Nat.le_trans (Nat.zero_le _) K_19.1) Xc_20 hSc_20 hgc_20 hZ hown
  obtain ⟨u_21, rfl, Nq_20, K_20q, q_20_0, q_20_1⟩ := hQ_20
  have N_20 := Fr.app N_14 Nq_20
  refine own_via (fun _ k => st_20.trans k) ?_
  show own_Go p e below _ (T_20.setTop (mkF m 73 #[.val (.int p1), .val (.int p2), .val (.int p3), .val (.int p4), .val (.ref b_1), .val (.ref b_4), .val (.ref r_15), .val (.int (p1 &&& (3 : Int32))), .val (.int z8), .unset, .unset, .unset, .unset, .unset, .unset, .unset, .unset, .unset] [u_21]))
  refine own_via (fun _ => XS.astore X_20.here hx rfl (hb hby at_73) rfl q_20_0 (l' := #[.val (.int p1), .val (.int p2), .val (.int p3), .val (.int p4), .val (.ref b_1), .val (.ref b_4), .val (.ref r_15), .val (.int (p1 &&& (3 : Int32))), .val (.int z8), .val u_21, .unset, .unset, .unset, .unset, .unset, .unset, .unset, .unset]) (by rcases ref_cases q_20_0 with rfl | ⟨y, rfl⟩ <;> rfl)) ?_
  show own_Go p e below _ (T_20.setTop (mkF m 75 #[.val (.int p1), .val (.int p2), .val (.int p3), .val (.int p4), .val (.ref b_1), .val (.ref b_4), .val (.ref r_15), .val (.int (p1 &&& (3 : Int32))), .val (.int z8), .val u_21, .unset, .unset, .unset, .unset, .unset, .unset, .unset, .unset] []))
  refine own_via (fun _ => XS.iloadN X_20.here hx rfl (hb hby at_75) rfl) ?_
  show own_Go p e below _ (T_20.setTop (mkF m 76 #[.val (.int p1), .val (.int p2), .val (.int p3), .val (.int p4), .val (.ref b_1), .val (.ref b_4), .val (.ref r_15), .val (.int (p1 &&& (3 : Int32))), .val (.int z8), .val u_21, .unset, .unset, .unset, .unset, .unset, .unset, .unset, .unset] [(.int p1)]))
  refine own_via (fun _ => XS.iconst X_20.here hx rfl (hb hby at_76)) ?_
  show own_Go p e below _ (T_20.setTop (mkF m 77 #[.val (.int p1), .val (.int p2), .val (.int p3), .val (.int p4), .val (.ref b_1), .val (.ref b_4), .val (.ref r_15), .val (.int (p1 &&& (3 : Int32))), .val (.int z8), .val u_21, .unset, .unset, .unset, .unset, .unset, .unset, .unset, .unset] [(.int (2 : Int32)), (.int p1)]))
  refine own_via (fun _ => XS.iushr X_20.here hx rfl (hb hby at_77) rfl) ?_
  show own_Go p e below _ (T_20.setTop (mkF m 78 #[.val (.int p1), .val (.int p2), .val (.int p3), .val (.int p4), .val (.ref b_1), .val (.ref b_4), .val (.ref r_15), .val (.int (p1 &&& (3 : Int32))), .val (.int z8), .val u_21, .unset, .unset, .unset, .unset, .unset, .unset, .unset, .unset] [(.int ((p1.toUInt32 >>> ((2 : Int32) &&& 31).toUInt32).toInt32))]))
  refine own_via (fun _ => XS.iconst X_20.here hx rfl (hb hby at_78)) ?_
  show own_Go p e below _ (T_20.setTop (mkF m 79 #[.val (.int p1), .val (.int p2), .val (.int p3), .val (.int p4), .val (.ref b_1), .val (.ref b_4), .val (.ref r_15), .val (.int (p1 &&& (3 : Int32))), .val (.int z8), .val u_21, .unset, .unset, .unset, .unset, .unset, .unset, .unset, .unset] [(.int (3 : Int32)), (.int ((p1.toUInt32 >>> ((2 : Int32) &&& 31).toUInt32).toInt32))]))
  refine own_via (fun _ => XS.iand X_20.here hx rfl (hb hby at_79) rfl) ?_
  show own_Go p e below _ (T_20.setTop (mkF m 80 #[.val (.int p1), .val (.int p2), .val (.int p3), .val (.int p4), .val (.ref b_1), .val (.ref b_4), .val (.ref r_15), .val (.int (p1 &&& (3 : Int32))), .val (.int z8), .val u_21, .unset, .unset, .unset, .unset, .unset, .unset, .unset, .unset] [(.int (((p1.toUInt32 >>> ((2 : Int32) &&& 31).toUInt32).toInt32) &&& (3 : Int32)))]))
  refine own_via (fun _ => XS.aload X_20.here hx rfl (hb hby at_80) rfl rfl) ?_
  show own_Go p e below _ (T_20.setTop (mkF m 82 #[.val (.int p1), .val (.int p2), .val (.int p3), .val (.int p4), .val (.ref b_1), .val (.ref b_4), .val (.ref r_15), .val (.int (p1 &&& (3 : Int32))), .val (.int z8), .val u_21, .unset, .unset, .unset, .unset, .unset, .unset, .unset, .unset] [(.ref r_15), (.int (((p1.toUInt32 >>> ((2 : Int32) &&& 31).toUInt32).toInt32) &&& (3 : Int32)))]))
  refine own_via (fun _ => XS.aload X_20.here hx rfl (hb hby at_82) rfl rfl) ?_
  show own_Go p e below _ (T_20.setTop (mkF m 84 #[.val (.int p1), .val (.int p2), .val (.int p3), .val (.int p4), .val (.ref b_1), .val (.ref b_4), .val (.ref r_15), .val (.int (p1 &&& (3 : Int32))), .val (.int z8), .val u_21, .unset, .unset, .unset, .unset, .unset, .unset, .unset, .unset] [(.ref b_4), (.ref r_15), (.int (((p1.toUInt32 >>> ((2 : Int32) &&& 31).toUInt32).toInt32) &&& (3 : Int32)))]))
  have K_22 : Keep h0 T_20.heap [] := Keep.trans (ws := []) K_19 K_20q all0
  obtain ⟨_, _, ⟨T_23, L_23, k_23, n_23⟩, -, Xc_23, hSc_23, hgc_23, ⟨Lc_23, hQ_23, l_23, y_23, z_23⟩, st_23⟩ := callSS X_20 hx (y := (⟨"com/example/jobwright/jobwright/NodeIsEndPinLaw", "pick", "(ILjava/lang/String;Ljava/lang/String;)Ljava/lang/String;"⟩ : MethodName)) ho_20 (mvT hZ_20 (own_w hw 44 rfl)) (mvT hZ_20 (own_w hw 45 rfl)) (mvT hZ_20 (own_w hw 46 rfl)) (mvT hZ_20 (own_w hw 47 rfl)) (by decide) (own_backS (J := fun _ => True) (W := 0) (rmpick l Z a0 hw [] (((p1.toUInt32 >>> ((2 : Int32) &&& 31).toUInt32).toInt32) &&& (3 : Int32)) r_15 b_4 T_20.heap n0 (Nat.le_trans Z0 K_22.1) ) hZ_20 (own_w hw 47 rfl) (own_w hw 46 rfl) (by decide) (by decide)) (g := (mkF m 84 #[.val (.int p1), .val (.int p2), .val (.int p3), .val (.int p4), .val (.ref b_1), .val (.ref b_4), .val (.ref r_15), .val (.int (p1 &&& (3 : Int32))), .val (.int z8), .val u_21, .unset, .unset, .unset, .unset, .unset, .unset, .unset, .unset] [(.ref b_4), (.ref r_15), (.int (((p1.toUInt32 >>> ((2 : Int32) &&& 31).toUInt32).toInt32) &&& (3 : Int32)))])) rfl (by rw [hml]; rfl) (argsL := [(.int (((p1.toUInt32 >>> ((2 : Int32) &&& 31).toUInt32).toInt32) &&& (3 : Int32))), (.ref r_15), (.ref b_4)]) (rest := []) (lenOf pd_6 rfl) rfl (by show 2 * 0 + _ ≤ _; exact Nat.le_of_eq rfl) (hb hby at_84) (fun _ hW1 => ⟨rfl, rfl, trivial, (by decide : 7 + 2 ≤ _), (by decide : 17 + 4 ≤ _)⟩)
  dsimp only [Pt.U, Pt.locs, Pt.cells, Pt.slots] at Xc_23 hSc_23 hgc_23 l_23 y_23 z_23 st_23 hQ_23
  subst l_23 y_23 z_23
  obtain ⟨X_23, hS_23, hZ_23, ho_23⟩ := rebS hS_20 (Nat.le_refl _) Xc_23 hSc_23 hgc_23 hZ_20 ho_20
  obtain ⟨u_24, rfl, Nq_23, K_23q, q_23_0, q_23_1⟩ := hQ_23
  have N_23 := Fr.app N_20 Nq_23
  refine own_via (fun _ k => st_23.trans k) ?_
  show own_Go p e below _ (T_23.setTop (mkF m 87 #[.val (.int p1), .val (.int p2), .val (.int p3), .val (.int p4), .val (.ref b_1), .val (.ref b_4), .val (.ref r_15), .val (.int (p1 &&& (3 : Int32))), .val (.int z8), .val u_21, .unset, .unset, .unset, .unset, .unset, .unset, .unset, .unset] [u_24]))
  refine own_via (fun _ => XS.astore X_23.here hx rfl (hb hby at_87) rfl q_23_0 (l' := #[.val (.int p1), .val (.int p2), .val (.int p3), .val (.int p4), .val (.ref b_1), .val (.ref b_4), .val (.ref r_15), .val (.int (p1 &&& (3 : Int32))), .val (.int z8), .val u_21, .val u_24, .unset, .unset, .unset, .unset, .unset, .unset, .unset]) (by rcases ref_cases q_23_0 with rfl | ⟨y, rfl⟩ <;> rfl)) ?_
  show own_Go p e below _ (T_23.setTop (mkF m 89 #[.val (.int p1), .val (.int p2), .val (.int p3), .val (.int p4), .val (.ref b_1), .val (.ref b_4), .val (.ref r_15), .val (.int (p1 &&& (3 : Int32))), .val (.int z8), .val u_21, .val u_24, .unset, .unset, .unset, .unset, .unset, .unset, .unset] []))
  refine own_via (fun _ => XS.iloadN X_23.here hx rfl (hb hby at_89) rfl) ?_
  show own_Go p e below _ (T_23.setTop (mkF m 90 #[.val (.int p1), .val (.int p2), .val (.int p3), .val (.int p4), .val (.ref b_1), .val (.ref b_4), .val (.ref r_15), .val (.int (p1 &&& (3 : Int32))), .val (.int z8), .val u_21, .val u_24, .unset, .unset, .unset, .unset, .unset, .unset, .unset] [(.int p1)]))
  refine own_via (fun _ => XS.iconst X_23.here hx rfl (hb hby at_90)) ?_
  show own_Go p e below _ (T_23.setTop (mkF m 91 #[.val (.int p1), .val (.int p2), .val (.int p3), .val (.int p4), .val (.ref b_1), .val (.ref b_4), .val (.ref r_15), .val (.int (p1 &&& (3 : Int32))), .val (.int z8), .val u_21, .val u_24, .unset, .unset, .unset, .unset, .unset, .unset, .unset] [(.int (4 : Int32)), (.int p1)]))
  refine own_via (fun _ => XS.iushr X_23.here hx rfl (hb hby at_91) rfl) ?_
  show own_Go p e below _ (T_23.setTop (mkF m 92 #[.val (.int p1), .val (.int p2), .val (.int p3), .val (.int p4), .val (.ref b_1), .val (.ref b_4), .val (.ref r_15), .val (.int (p1 &&& (3 : Int32))), .val (.int z8), .val u_21, .val u_24, .unset, .unset, .unset, .unset, .unset, .unset, .unset] [(.int ((p1.toUInt32 >>> ((4 : Int32) &&& 31).toUInt32).toInt32))]))
  refine own_via (fun _ => XS.iconst X_23.here hx rfl (hb hby at_92)) ?_
  show own_Go p e below _ (T_23.setTop (mkF m 93 #[.val (.int p1), .val (.int p2), .val (.int p3), .val (.int p4), .val (.ref b_1), .val (.ref b_4), .val (.ref r_15), .val (.int (p1 &&& (3 : Int32))), .val (.int z8), .val u_21, .val u_24, .unset, .unset, .unset, .unset, .unset, .unset, .unset] [(.int (3 : Int32)), (.int ((p1.toUInt32 >>> ((4 : Int32) &&& 31).toUInt32).toInt32))]))
  refine own_via (fun _ => XS.iand X_23.here hx rfl (hb hby at_93) rfl) ?_
  show own_Go p e below _ (T_23.setTop (mkF m 94 #[.val (.int p1), .val (.int p2), .val (.int p3), .val (.int p4), .val (.ref b_1), .val (.ref b_4), .val (.ref r_15), .val (.int (p1 &&& (3 : Int32))), .val (.int z8), .val u_21, .val u_24, .unset, .unset, .unset, .unset, .unset, .unset, .unset] [(.int (((p1.toUInt32 >>> ((4 : Int32) &&& 31).toUInt32).toInt32) &&& (3 : Int32)))]))
  refine own_via (fun _ => XS.aload X_23.here hx rfl (hb hby at_94) rfl rfl) ?_
  show own_Go p e below _ (T_23.setTop (mkF m 96 #[.val (.int p1), .val (.int p2), .val (.int p3), .val (.int p4), .val (.ref b_1), .val (.ref b_4), .val (.ref r_15), .val (.int (p1 &&& (3 : Int32))), .val (.int z8), .val u_21, .val u_24, .unset, .unset, .unset, .unset, .unset, .unset, .unset] [(.ref r_15), (.int (((p1.toUInt32 >>> ((4 : Int32) &&& 31).toUInt32).toInt32) &&& (3 : Int32)))]))
  refine own_via (fun _ => XS.aload X_23.here hx rfl (hb hby at_96) rfl rfl) ?_
  show own_Go p e below _ (T_23.setTop (mkF m 98 #[.val (.int p1), .val (.int p2), .val (.int p3), .val (.int p4), .val (.ref b_1), .val (.ref b_4), .val (.ref r_15), .val (.int (p1 &&& (3 : Int32))), .val (.int z8), .val u_21, .val u_24, .unset, .unset, .unset, .unset, .unset, .unset, .unset] [(.ref b_4), (.ref r_15), (.int (((p1.toUInt32 >>> ((4 : Int32) &&& 31).toUInt32).toInt32) &&& (3 : Int32)))]))
  have K_25 : Keep h0 T_23.heap [] := Keep.trans (ws := []) K_22 K_23q all0
  obtain ⟨_, _, ⟨T_26, L_26, k_26, n_26⟩, -, Xc_26, hSc_26, hgc_26, ⟨Lc_26, hQ_26, l_26, y_26, z_26⟩, st_26⟩ := callSS X_23 hx (y := (⟨"com/example/jobwright/jobwright/NodeIsEndPinLaw", "pick", "(ILjava/lang/String;Ljava/lang/String;)Ljava/lang/String;"⟩ : MethodName)) ho_23 (mvT hZ_23 (own_w hw 44 rfl)) (mvT hZ_23 (own_w hw 45 rfl)) (mvT hZ_23 (own_w hw 46 rfl)) (mvT hZ_23 (own_w hw 47 rfl)) (by decide) (own_backS (J := fun _ => True) (W := 0) (rmpick l Z a0 hw [] (((p1.toUInt32 >>> ((4 : Int32) &&& 31).toUInt32).toInt32) &&& (3 : Int32)) r_15 b_4 T_23.heap n0 (Nat.le_trans Z0 K_25.1) ) hZ_23 (own_w hw 47 rfl) (own_w hw 46 rfl) (by decide) (by decide)) (g := (mkF m 98 #[.val (.int p1), .val (.int p2), .val (.int p3), .val (.int p4), .val (.ref b_1), .val (.ref b_4), .val (.ref r_15), .val (.int (p1 &&& (3 : Int32))), .val (.int z8), .val u_21, .val u_24, .unset, .unset, .unset, .unset, .unset, .unset, .unset] [(.ref b_4), (.ref r_15), (.int (((p1.toUInt32 >>> ((4 : Int32) &&& 31).toUInt32).toInt32) &&& (3 : Int32)))])) rfl (by rw [hml]; rfl) (argsL := [(.int (((p1.toUInt32 >>> ((4 : Int32) &&& 31).toUInt32).toInt32) &&& (3 : Int32))), (.ref r_15), (.ref b_4)]) (rest := []) (lenOf pd_6 rfl) rfl (by show 2 * 0 + _ ≤ _; exact Nat.le_of_eq rfl) (hb hby at_98) (fun _ hW1 => ⟨rfl, rfl, trivial, (by decide : 9 + 2 ≤ _), (by decide : 21 + 4 ≤ _)⟩)
  dsimp only [Pt.U, Pt.locs, Pt.cells, Pt.slots] at Xc_26 hSc_26 hgc_26 l_26 y_26 z_26 st_26 hQ_26
  subst l_26 y_26 z_26
  obtain ⟨X_26, hS_26, hZ_26, ho_26⟩ := rebS hS_23 (Nat.le_refl _) Xc_26 hSc_26 hgc_26 hZ_23 ho_23
  obtain ⟨u_27, rfl, Nq_26, K_26q, q_26_0, q_26_1⟩ := hQ_26
  have N_26 := Fr.app N_23 Nq_26
  refine own_via (fun _ k => st_26.trans k) ?_
  show own_Go p e below _ (T_26.setTop (mkF m 101 #[.val (.int p1), .val (.int p2), .val (.int p3), .val (.int p4), .val (.ref b_1), .val (.ref b_4), .val (.ref r_15), .val (.int (p1 &&& (3 : Int32))), .val (.int z8), .val u_21, .val u_24, .unset, .unset, .unset, .unset, .unset, .unset, .unset] [u_27]))
  refine own_via (fun _ => XS.astore X_26.here hx rfl (hb hby at_101) rfl q_26_0 (l' := #[.val (.int p1), .val (.int p2), .val (.int p3), .val (.int p4), .val (.ref b_1), .val (.ref b_4), .val (.ref r_15), .val (.int (p1 &&& (3 : Int32))), .val (.int z8), .val u_21, .val u_24, .val u_27, .unset, .unset, .unset, .unset, .unset, .unset]) (by rcases ref_cases q_26_0 with rfl | ⟨y, rfl⟩ <;> rfl)) ?_
  show own_Go p e below _ (T_26.setTop (mkF m 103 #[.val (.int p1), .val (.int p2), .val (.int p3), .val (.int p4), .val (.ref b_1), .val (.ref b_4), .val (.ref r_15), .val (.int (p1 &&& (3 : Int32))), .val (.int z8), .val u_21, .val u_24, .val u_27, .unset, .unset, .unset, .unset, .unset, .unset] []))
  refine own_via (fun _ => XS.iloadN X_26.here hx rfl (hb hby at_103) rfl) ?_
  show own_Go p e below _ (T_26.setTop (mkF m 104 #[.val (.int p1), .val (.int p2), .val (.int p3), .val (.int p4), .val (.ref b_1), .val (.ref b_4), .val (.ref r_15), .val (.int (p1 &&& (3 : Int32))), .val (.int z8), .val u_21, .val u_24, .val u_27, .unset, .unset, .unset, .unset, .unset, .unset] [(.int p1)]))
  refine own_via (fun _ => XS.bipush X_26.here hx rfl (hb hby at_104)) ?_
  show own_Go p e below _ (T_26.setTop (mkF m 106 #[.val (.int p1), .val (.int p2), .val (.int p3), .val (.int p4), .val (.ref b_1), .val (.ref b_4), .val (.ref r_15), .val (.int (p1 &&& (3 : Int32))), .val (.int z8), .val u_21, .val u_24, .val u_27, .unset, .unset, .unset, .unset, .unset, .unset] [(.int (6 : Int32)), (.int p1)]))
  refine own_via (fun _ => XS.iushr X_26.here hx rfl (hb hby at_106) rfl) ?_
  show own_Go p e below _ (T_26.setTop (mkF m 107 #[.val (.int p1), .val (.int p2), .val (.int p3), .val (.int p4), .val (.ref b_1), .val (.ref b_4), .val (.ref r_15), .val (.int (p1 &&& (3 : Int32))), .val (.int z8), .val u_21, .val u_24, .val u_27, .unset, .unset, .unset, .unset, .unset, .unset] [(.int ((p1.toUInt32 >>> ((6 : Int32) &&& 31).toUInt32).toInt32))]))
  refine own_via (fun _ => XS.iconst X_26.here hx rfl (hb hby at_107)) ?_
  show own_Go p e below _ (T_26.setTop (mkF m 108 #[.val (.int p1), .val (.int p2), .val (.int p3), .val (.int p4), .val (.ref b_1), .val (.ref b_4), .val (.ref r_15), .val (.int (p1 &&& (3 : Int32))), .val (.int z8), .val u_21, .val u_24, .val u_27, .unset, .unset, .unset, .unset, .unset, .unset] [(.int (3 : Int32)), (.int ((p1.toUInt32 >>> ((6 : Int32) &&& 31).toUInt32).toInt32))]))
  refine own_via (fun _ => XS.iand X_26.here hx rfl (hb hby at_108) rfl) ?_
  show own_Go p e below _ (T_26.setTop (mkF m 109 #[.val (.int p1), .val (.int p2), .val (.int p3), .val (.int p4), .val (.ref b_1), .val (.ref b_4), .val (.ref r_15), .val (.int (p1 &&& (3 : Int32))), .val (.int z8), .val u_21, .val u_24, .val u_27, .unset, .unset, .unset, .unset, .unset, .unset] [(.int (((p1.toUInt32 >>> ((6 : Int32) &&& 31).toUInt32).toInt32) &&& (3 : Int32)))]))
  refine own_via (fun _ => XS.aload X_26.here hx rfl (hb hby at_109) rfl rfl) ?_
  show own_Go p e below _ (T_26.setTop (mkF m 111 #[.val (.int p1), .val (.int p2), .val (.int p3), .val (.int p4), .val (.ref b_1), .val (.ref b_4), .val (.ref r_15), .val (.int (p1 &&& (3 : Int32))), .val (.int z8), .val u_21, .val u_24, .val u_27, .unset, .unset, .unset, .unset, .unset, .unset] [(.ref r_15), (.int (((p1.toUInt32 >>> ((6 : Int32) &&& 31).toUInt32).toInt32) &&& (3 : Int32)))]))
  refine own_via (fun _ => XS.aload X_26.here hx rfl (hb hby at_111) rfl rfl) ?_
  show own_Go p e below _ (T_26.setTop (mkF m 113 #[.val (.int p1), .val (.int p2), .val (.int p3), .val (.int p4), .val (.ref b_1), .val (.ref b_4), .val (.ref r_15), .val (.int (p1 &&& (3 : Int32))), .val (.int z8), .val u_21, .val u_24, .val u_27, .unset, .unset, .unset, .unset, .unset, .unset] [(.ref b_4), (.ref r_15), (.int (((p1.toUInt32 >>> ((6 : Int32) &&& 31).toUInt32).toInt32) &&& (3 : Int32)))]))
  have K_28 : Keep h0 T_26.heap [] := Keep.trans (ws := []) K_25 K_26q all0
  obtain ⟨_, _, ⟨T_29, L_29, k_29, n_29⟩, -, Xc_29, hSc_29, hgc_29, ⟨Lc_29, hQ_29, l_29, y_29, z_29⟩, st_29⟩ := callSS X_26 hx (y := (⟨"com/example/jobwright/jobwright/NodeIsEndPinLaw", "pick", "(ILjava/lang/String;Ljava/lang/String;)Ljava/lang/String;"⟩ : MethodName)) ho_26 (mvT hZ_26 (own_w hw 44 rfl)) (mvT hZ_26 (own_w hw 45 rfl)) (mvT hZ_26 (own_w hw 46 rfl)) (mvT hZ_26 (own_w hw 47 rfl)) (by decide) (own_backS (J := fun _ => True) (W := 0) (rmpick l Z a0 hw [] (((p1.toUInt32 >>> ((6 : Int32) &&& 31).toUInt32).toInt32) &&& (3 : Int32)) r_15 b_4 T_26.heap n0 (Nat.le_trans Z0 K_28.1) ) hZ_26 (own_w hw 47 rfl) (own_w hw 46 rfl) (by decide) (by decide)) (g := (mkF m 113 #[.val (.int p1), .val (.int p2), .val (.int p3), .val (.int p4), .val (.ref b_1), .val (.ref b_4), .val (.ref r_15), .val (.int (p1 &&& (3 : Int32))), .val (.int z8), .val u_21, .val u_24, .val u_27, .unset, .unset, .unset, .unset, .unset, .unset] [(.ref b_4), (.ref r_15), (.int (((p1.toUInt32 >>> ((6 : Int32) &&& 31).toUInt32).toInt32) &&& (3 : Int32)))])) rfl (by rw [hml]; rfl) (argsL := [(.int (((p1.toUInt32 >>> ((6 : Int32) &&& 31).toUInt32).toInt32) &&& (3 : Int32))), (.ref r_15), (.ref b_4)]) (rest := []) (lenOf pd_6 rfl) rfl (by show 2 * 0 + _ ≤ _; exact Nat.le_of_eq rfl) (hb hby at_113) (fun _ hW1 => ⟨rfl, rfl, trivial, (by decide : 11 + 2 ≤ _), (by decide : 25 + 4 ≤ _)⟩)
  dsimp only [Pt.U, Pt.locs, Pt.cells, Pt.slots] at Xc_29 hSc_29 hgc_29 l_29 y_29 z_29 st_29 hQ_29
  subst l_29 y_29 z_29
  obtain ⟨X_29, hS_29, hZ_29, ho_29⟩ := rebS hS_26 (Nat.le_refl _) Xc_29 hSc_29 hgc_29 hZ_26 ho_26
  obtain ⟨u_30, rfl, Nq_29, K_29q, q_29_0, q_29_1⟩ := hQ_29
  have N_29 := Fr.app N_26 Nq_29
  refine own_via (fun _ k => st_29.trans k) ?_
  show own_Go p e below _ (T_29.setTop (mkF m 116 #[.val (.int p1), .val (.int p2), .val (.int p3), .val (.int p4), .val (.ref b_1), .val (.ref b_4), .val (.ref r_15), .val (.int (p1 &&& (3 : Int32))), .val (.int z8), .val u_21, .val u_24, .val u_27, .unset, .unset, .unset, .unset, .unset, .unset] [u_30]))
  refine own_via (fun _ => XS.astore X_29.here hx rfl (hb hby at_116) rfl q_29_0 (l' := #[.val (.int p1), .val (.int p2), .val (.int p3), .val (.int p4), .val (.ref b_1), .val (.ref b_4), .val (.ref r_15), .val (.int (p1 &&& (3 : Int32))), .val (.int z8), .val u_21, .val u_24, .val u_27, .val u_30, .unset, .unset, .unset, .unset, .unset]) (by rcases ref_cases q_29_0 with rfl | ⟨y, rfl⟩ <;> rfl)) ?_
  show own_Go p e below _ (T_29.setTop (mkF m 118 #[.val (.int p1), .val (.int p2), .val (.int p3), .val (.int p4), .val (.ref b_1), .val (.ref b_4), .val (.ref r_15), .val (.int (p1 &&& (3 : Int32))), .val (.int z8), .val u_21, .val u_24, .val u_27, .val u_30, .unset, .unset, .unset, .unset, .unset] []))
  refine own_via (fun _ => XS.iloadN X_29.here hx rfl (hb hby at_118) rfl) ?_
  show own_Go p e below _ (T_29.setTop (mkF m 119 #[.val (.int p1), .val (.int p2), .val (.int p3), .val (.int p4), .val (.ref b_1), .val (.ref b_4), .val (.ref r_15), .val (.int (p1 &&& (3 : Int32))), .val (.int z8), .val u_21, .val u_24, .val u_27, .val u_30, .unset, .unset, .unset, .unset, .unset] [(.int p1)]))
  refine own_via (fun _ => XS.bipush X_29.here hx rfl (hb hby at_119)) ?_
  show own_Go p e below _ (T_29.setTop (mkF m 121 #[.val (.int p1), .val (.int p2), .val (.int p3), .val (.int p4), .val (.ref b_1), .val (.ref b_4), .val (.ref r_15), .val (.int (p1 &&& (3 : Int32))), .val (.int z8), .val u_21, .val u_24, .val u_27, .val u_30, .unset, .unset, .unset, .unset, .unset] [(.int (8 : Int32)), (.int p1)]))
  refine own_via (fun _ => XS.iushr X_29.here hx rfl (hb hby at_121) rfl) ?_
  show own_Go p e below _ (T_29.setTop (mkF m 122 #[.val (.int p1), .val (.int p2), .val (.int p3), .val (.int p4), .val (.ref b_1), .val (.ref b_4), .val (.ref r_15), .val (.int (p1 &&& (3 : Int32))), .val (.int z8), .val u_21, .val u_24, .val u_27, .val u_30, .unset, .unset, .unset, .unset, .unset] [(.int ((p1.toUInt32 >>> ((8 : Int32) &&& 31).toUInt32).toInt32))]))
  refine own_via (fun _ => XS.iconst X_29.here hx rfl (hb hby at_122)) ?_
  show own_Go p e below _ (T_29.setTop (mkF m 123 #[.val (.int p1), .val (.int p2), .val (.int p3), .val (.int p4), .val (.ref b_1), .val (.ref b_4), .val (.ref r_15), .val (.int (p1 &&& (3 : Int32))), .val (.int z8), .val u_21, .val u_24, .val u_27, .val u_30, .unset, .unset, .unset, .unset, .unset] [(.int (1 : Int32)), (.int ((p1.toUInt32 >>> ((8 : Int32) &&& 31).toUInt32).toInt32))]))
  refine own_via (fun _ => XS.iand X_29.here hx rfl (hb hby at_123) rfl) ?_
  show own_Go p e below _ (T_29.setTop (mkF m 124 #[.val (.int p1), .val (.int p2), .val (.int p3), .val (.int p4), .val (.ref b_1), .val (.ref b_4), .val (.ref r_15), .val (.int (p1 &&& (3 : Int32))), .val (.int z8), .val u_21, .val u_24, .val u_27, .val u_30, .unset, .unset, .unset, .unset, .unset] [(.int (((p1.toUInt32 >>> ((8 : Int32) &&& 31).toUInt32).toInt32) &&& (1 : Int32)))]))
  obtain ⟨z13, ez13⟩ : ∃ z : Int32, z = (if (((p1.toUInt32 >>> ((8 : Int32) &&& 31).toUInt32).toInt32) &&& (1 : Int32)) = (0 : Int32) then (0 : Int32) else (1 : Int32)) := ⟨_, rfl⟩
  refine own_seq (B := T_29.setTop (mkF m 132 #[.val (.int p1), .val (.int p2), .val (.int p3), .val (.int p4), .val (.ref b_1), .val (.ref b_4), .val (.ref r_15), .val (.int (p1 &&& (3 : Int32))), .val (.int z8), .val u_21, .val u_24, .val u_27, .val u_30, .unset, .unset, .unset, .unset, .unset] [(.int z13)])) (fun kz => ?_) ?_
  · by_cases hv_31 : (((p1.toUInt32 >>> ((8 : Int32) &&& 31).toUInt32).toInt32) &&& (1 : Int32)) = (0 : Int32)
    · refine own_via (fun _ => XS.ifYes X_29.here hx rfl (pc0 := 124) (pc' := 131) rfl (hb hby at_124) rfl ((if0 _ _).trans (teq (hv_31 : (((p1.toUInt32 >>> ((8 : Int32) &&& 31).toUInt32).toInt32) &&& (1 : Int32)) = (0 : Int32))).1) (by decide) (by decide)) ?_
      show own_Go p e below _ (T_29.setTop (mkF m 131 #[.val (.int p1), .val (.int p2), .val (.int p3), .val (.int p4), .val (.ref b_1), .val (.ref b_4), .val (.ref r_15), .val (.int (p1 &&& (3 : Int32))), .val (.int z8), .val u_21, .val u_24, .val u_27, .val u_30, .unset, .unset, .unset, .unset, .unset] []))
      refine own_via (fun _ => XS.iconst X_29.here hx rfl (hb hby at_131)) ?_
      show own_Go p e below _ (T_29.setTop (mkF m 132 #[.val (.int p1), .val (.int p2), .val (.int p3), .val (.int p4), .val (.ref b_1), .val (.ref b_4), .val (.ref r_15), .val (.int (p1 &&& (3 : Int32))), .val (.int z8), .val u_21, .val u_24, .val u_27, .val u_30, .unset, .unset, .unset, .unset, .unset] [(.int (0 : Int32))]))
      rw [if_pos hv_31] at ez13
      subst ez13
      exact kz
    · refine own_via (fun _ => XS.ifNo X_29.here hx rfl (hb hby at_124) rfl ((if0 _ _).trans (feq (hv_31 : ¬ ((((p1.toUInt32 >>> ((8 : Int32) &&& 31).toUInt32).toInt32) &&& (1 : Int32)) = (0 : Int32)))).1)) ?_
      show own_Go p e below _ (T_29.setTop (mkF m 127 #[.val (.int p1), .val (.int p2), .val (.int p3), .val (.int p4), .val (.ref b_1), .val (.ref b_4), .val (.ref r_15), .val (.int (p1 &&& (3 : Int32))), .val (.int z8), .val u_21, .val u_24, .val u_27, .val u_30, .unset, .unset, .unset, .unset, .unset] []))
      refine own_via (fun _ => XS.iconst X_29.here hx rfl (hb hby at_127)) ?_
      show own_Go p e below _ (T_29.setTop (mkF m 128 #[.val (.int p1), .val (.int p2), .val (.int p3), .val (.int p4), .val (.ref b_1), .val (.ref b_4), .val (.ref r_15), .val (.int (p1 &&& (3 : Int32))), .val (.int z8), .val u_21, .val u_24, .val u_27, .val u_30, .unset, .unset, .unset, .unset, .unset] [(.int (1 : Int32))]))
      refine own_via (fun _ => XS.goto X_29.here hx rfl (pc0 := 128) (pc' := 132) rfl (hb hby at_128) (by decide) (by decide)) ?_
      show own_Go p e below _ (T_29.setTop (mkF m 132 #[.val (.int p1), .val (.int p2), .val (.int p3), .val (.int p4), .val (.ref b_1), .val (.ref b_4), .val (.ref r_15), .val (.int (p1 &&& (3 : Int32))), .val (.int z8), .val u_21, .val u_24, .val u_27, .val u_30, .unset, .unset, .unset, .unset, .unset] [(.int (1 : Int32))]))
      rw [if_neg hv_31] at ez13
      subst ez13
      exact kz
  show own_Go p e below _ (T_29.setTop (mkF m 132 #[.val (.int p1), .val (.int p2), .val (.int p3), .val (.int p4), .val (.ref b_1), .val (.ref b_4), .val (.ref r_15), .val (.int (p1 &&& (3 : Int32))), .val (.int z8), .val u_21, .val u_24, .val u_27, .val u_30, .unset, .unset, .unset, .unset, .unset] [(.int z13)]))
  refine own_via (fun _ => XS.istore X_29.here hx rfl (hb hby at_132) rfl (l' := #[.val (.int p1), .val (.int p2), .val (.int p3), .val (.int p4), .val (.ref b_1), .val (.ref b_4), .val (.ref r_15), .val (.int (p1 &&& (3 : Int32))), .val (.int z8), .val u_21, .val u_24, .val u_27, .val u_30, .val (.int z13), .unset, .unset, .unset, .unset]) rfl) ?_
  show own_Go p e below _ (T_29.setTop (mkF m 134 #[.val (.int p1), .val (.int p2), .val (.int p3), .val (.int p4), .val (.ref b_1), .val (.ref b_4), .val (.ref r_15), .val (.int (p1 &&& (3 : Int32))), .val (.int z8), .val u_21, .val u_24, .val u_27, .val u_30, .val (.int z13), .unset, .unset, .unset, .unset] []))
  refine own_via (fun _ => XS.iloadN X_29.here hx rfl (hb hby at_134) rfl) ?_
  show own_Go p e below _ (T_29.setTop (mkF m 135 #[.val (.int p1), .val (.int p2), .val (.int p3), .val (.int p4), .val (.ref b_1), .val (.ref b_4), .val (.ref r_15), .val (.int (p1 &&& (3 : Int32))), .val (.int z8), .val u_21, .val u_24, .val u_27, .val u_30, .val (.int z13), .unset, .unset, .unset, .unset] [(.int p1)]))
  refine own_via (fun _ => XS.bipush X_29.here hx rfl (hb hby at_135)) ?_
  show own_Go p e below _ (T_29.setTop (mkF m 137 #[.val (.int p1), .val (.int p2), .val (.int p3), .val (.int p4), .val (.ref b_1), .val (.ref b_4), .val (.ref r_15), .val (.int (p1 &&& (3 : Int32))), .val (.int z8), .val u_21, .val u_24, .val u_27, .val u_30, .val (.int z13), .unset, .unset, .unset, .unset] [(.int (9 : Int32)), (.int p1)]))
  refine own_via (fun _ => XS.iushr X_29.here hx rfl (hb hby at_137) rfl) ?_
  show own_Go p e below _ (T_29.setTop (mkF m 138 #[.val (.int p1), .val (.int p2), .val (.int p3), .val (.int p4), .val (.ref b_1), .val (.ref b_4), .val (.ref r_15), .val (.int (p1 &&& (3 : Int32))), .val (.int z8), .val u_21, .val u_24, .val u_27, .val u_30, .val (.int z13), .unset, .unset, .unset, .unset] [(.int ((p1.toUInt32 >>> ((9 : Int32) &&& 31).toUInt32).toInt32))]))
  refine own_via (fun _ => XS.iconst X_29.here hx rfl (hb hby at_138)) ?_
  show own_Go p e below _ (T_29.setTop (mkF m 139 #[.val (.int p1), .val (.int p2), .val (.int p3), .val (.int p4), .val (.ref b_1), .val (.ref b_4), .val (.ref r_15), .val (.int (p1 &&& (3 : Int32))), .val (.int z8), .val u_21, .val u_24, .val u_27, .val u_30, .val (.int z13), .unset, .unset, .unset, .unset] [(.int (1 : Int32)), (.int ((p1.toUInt32 >>> ((9 : Int32) &&& 31).toUInt32).toInt32))]))
  refine own_via (fun _ => XS.iand X_29.here hx rfl (hb hby at_139) rfl) ?_
  show own_Go p e below _ (T_29.setTop (mkF m 140 #[.val (.int p1), .val (.int p2), .val (.int p3), .val (.int p4), .val (.ref b_1), .val (.ref b_4), .val (.ref r_15), .val (.int (p1 &&& (3 : Int32))), .val (.int z8), .val u_21, .val u_24, .val u_27, .val u_30, .val (.int z13), .unset, .unset, .unset, .unset] [(.int (((p1.toUInt32 >>> ((9 : Int32) &&& 31).toUInt32).toInt32) &&& (1 : Int32)))]))
  obtain ⟨z14, ez14⟩ : ∃ z : Int32, z = (if (((p1.toUInt32 >>> ((9 : Int32) &&& 31).toUInt32).toInt32) &&& (1 : Int32)) = (0 : Int32) then (0 : Int32) else (1 : Int32)) := ⟨_, rfl⟩
  refine own_seq (B := T_29.setTop (mkF m 148 #[.val (.int p1), .val (.int p2), .val (.int p3), .val (.int p4), .val (.ref b_1), .val (.ref b_4), .val (.ref r_15), .val (.int (p1 &&& (3 : Int32))), .val (.int z8), .val u_21, .val u_24, .val u_27, .val u_30, .val (.int z13), .unset, .unset, .unset, .unset] [(.int z14)])) (fun kz => ?_) ?_
  · by_cases hv_32 : (((p1.toUInt32 >>> ((9 : Int32) &&& 31).toUInt32).toInt32) &&& (1 : Int32)) = (0 : Int32)
    · refine own_via (fun _ => XS.ifYes X_29.here hx rfl (pc0 := 140) (pc' := 147) rfl (hb hby at_140) rfl ((if0 _ _).trans (teq (hv_32 : (((p1.toUInt32 >>> ((9 : Int32) &&& 31).toUInt32).toInt32) &&& (1 : Int32)) = (0 : Int32))).1) (by decide) (by decide)) ?_
      show own_Go p e below _ (T_29.setTop (mkF m 147 #[.val (.int p1), .val (.int p2), .val (.int p3), .val (.int p4), .val (.ref b_1), .val (.ref b_4), .val (.ref r_15), .val (.int (p1 &&& (3 : Int32))), .val (.int z8), .val u_21, .val u_24, .val u_27, .val u_30, .val (.int z13), .unset, .unset, .unset, .unset] []))
      refine own_via (fun _ => XS.iconst X_29.here hx rfl (hb hby at_147)) ?_
      show own_Go p e below _ (T_29.setTop (mkF m 148 #[.val (.int p1), .val (.int p2), .val (.int p3), .val (.int p4), .val (.ref b_1), .val (.ref b_4), .val (.ref r_15), .val (.int (p1 &&& (3 : Int32))), .val (.int z8), .val u_21, .val u_24, .val u_27, .val u_30, .val (.int z13), .unset, .unset, .unset, .unset] [(.int (0 : Int32))]))
      rw [if_pos hv_32] at ez14
      subst ez14
      exact kz
    · refine own_via (fun _ => XS.ifNo X_29.here hx rfl (hb hby at_140) rfl ((if0 _ _).trans (feq (hv_32 : ¬ ((((p1.toUInt32 >>> ((9 : Int32) &&& 31).toUInt32).toInt32) &&& (1 : Int32)) = (0 : Int32)))).1)) ?_
      show own_Go p e below _ (T_29.setTop (mkF m 143 #[.val (.int p1), .val (.int p2), .val (.int p3), .val (.int p4), .val (.ref b_1), .val (.ref b_4), .val (.ref r_15), .val (.int (p1 &&& (3 : Int32))), .val (.int z8), .val u_21, .val u_24, .val u_27, .val u_30, .val (.int z13), .unset, .unset, .unset, .unset] []))
      refine own_via (fun _ => XS.iconst X_29.here hx rfl (hb hby at_143)) ?_
      show own_Go p e below _ (T_29.setTop (mkF m 144 #[.val (.int p1), .val (.int p2), .val (.int p3), .val (.int p4), .val (.ref b_1), .val (.ref b_4), .val (.ref r_15), .val (.int (p1 &&& (3 : Int32))), .val (.int z8), .val u_21, .val u_24, .val u_27, .val u_30, .val (.int z13), .unset, .unset, .unset, .unset] [(.int (1 : Int32))]))
      refine own_via (fun _ => XS.goto X_29.here hx rfl (pc0 := 144) (pc' := 148) rfl (hb hby at_144) (by decide) (by decide)) ?_
      show own_Go p e below _ (T_29.setTop (mkF m 148 #[.val (.int p1), .val (.int p2), .val (.int p3), .val (.int p4), .val (.ref b_1), .val (.ref b_4), .val (.ref r_15), .val (.int (p1 &&& (3 : Int32))), .val (.int z8), .val u_21, .val u_24, .val u_27, .val u_30, .val (.int z13), .unset, .unset, .unset, .unset] [(.int (1 : Int32))]))
      rw [if_neg hv_32] at ez14
      subst ez14
      exact kz
  show own_Go p e below _ (T_29.setTop (mkF m 148 #[.val (.int p1), .val (.int p2), .val (.int p3), .val (.int p4), .val (.ref b_1), .val (.ref b_4), .val (.ref r_15), .val (.int (p1 &&& (3 : Int32))), .val (.int z8), .val u_21, .val u_24, .val u_27, .val u_30, .val (.int z13), .unset, .unset, .unset, .unset] [(.int z14)]))
  refine own_via (fun _ => XS.istore X_29.here hx rfl (hb hby at_148) rfl (l' := #[.val (.int p1), .val (.int p2), .val (.int p3), .val (.int p4), .val (.ref b_1), .val (.ref b_4), .val (.ref r_15), .val (.int (p1 &&& (3 : Int32))), .val (.int z8), .val u_21, .val u_24, .val u_27, .val u_30, .val (.int z13), .val (.int z14), .unset, .unset, .unset]) rfl) ?_
  show own_Go p e below _ (T_29.setTop (mkF m 150 #[.val (.int p1), .val (.int p2), .val (.int p3), .val (.int p4), .val (.ref b_1), .val (.ref b_4), .val (.ref r_15), .val (.int (p1 &&& (3 : Int32))), .val (.int z8), .val u_21, .val u_24, .val u_27, .val u_30, .val (.int z13), .val (.int z14), .unset, .unset, .unset] []))
  refine own_via (fun _ => XS.iloadN X_29.here hx rfl (hb hby at_150) rfl) ?_
  show own_Go p e below _ (T_29.setTop (mkF m 151 #[.val (.int p1), .val (.int p2), .val (.int p3), .val (.int p4), .val (.ref b_1), .val (.ref b_4), .val (.ref r_15), .val (.int (p1 &&& (3 : Int32))), .val (.int z8), .val u_21, .val u_24, .val u_27, .val u_30, .val (.int z13), .val (.int z14), .unset, .unset, .unset] [(.int p1)]))
  refine own_via (fun _ => XS.bipush X_29.here hx rfl (hb hby at_151)) ?_
  show own_Go p e below _ (T_29.setTop (mkF m 153 #[.val (.int p1), .val (.int p2), .val (.int p3), .val (.int p4), .val (.ref b_1), .val (.ref b_4), .val (.ref r_15), .val (.int (p1 &&& (3 : Int32))), .val (.int z8), .val u_21, .val u_24, .val u_27, .val u_30, .val (.int z13), .val (.int z14), .unset, .unset, .unset] [(.int (10 : Int32)), (.int p1)]))
  refine own_via (fun _ => XS.iushr X_29.here hx rfl (hb hby at_153) rfl) ?_
  show own_Go p e below _ (T_29.setTop (mkF m 154 #[.val (.int p1), .val (.int p2), .val (.int p3), .val (.int p4), .val (.ref b_1), .val (.ref b_4), .val (.ref r_15), .val (.int (p1 &&& (3 : Int32))), .val (.int z8), .val u_21, .val u_24, .val u_27, .val u_30, .val (.int z13), .val (.int z14), .unset, .unset, .unset] [(.int ((p1.toUInt32 >>> ((10 : Int32) &&& 31).toUInt32).toInt32))]))
  refine own_via (fun _ => XS.iconst X_29.here hx rfl (hb hby at_154)) ?_
  show own_Go p e below _ (T_29.setTop (mkF m 155 #[.val (.int p1), .val (.int p2), .val (.int p3), .val (.int p4), .val (.ref b_1), .val (.ref b_4), .val (.ref r_15), .val (.int (p1 &&& (3 : Int32))), .val (.int z8), .val u_21, .val u_24, .val u_27, .val u_30, .val (.int z13), .val (.int z14), .unset, .unset, .unset] [(.int (1 : Int32)), (.int ((p1.toUInt32 >>> ((10 : Int32) &&& 31).toUInt32).toInt32))]))
  refine own_via (fun _ => XS.iand X_29.here hx rfl (hb hby at_155) rfl) ?_
  show own_Go p e below _ (T_29.setTop (mkF m 156 #[.val (.int p1), .val (.int p2), .val (.int p3), .val (.int p4), .val (.ref b_1), .val (.ref b_4), .val (.ref r_15), .val (.int (p1 &&& (3 : Int32))), .val (.int z8), .val u_21, .val u_24, .val u_27, .val u_30, .val (.int z13), .val (.int z14), .unset, .unset, .unset] [(.int (((p1.toUInt32 >>> ((10 : Int32) &&& 31).toUInt32).toInt32) &&& (1 : Int32)))]))
  obtain ⟨z15, ez15⟩ : ∃ z : Int32, z = (if (((p1.toUInt32 >>> ((10 : Int32) &&& 31).toUInt32).toInt32) &&& (1 : Int32)) = (0 : Int32) then (0 : Int32) else (1 : Int32)) := ⟨_, rfl⟩
  refine own_seq (B := T_29.setTop (mkF m 164 #[.val (.int p1), .val (.int p2), .val (.int p3), .val (.int p4), .val (.ref b_1), .val (.ref b_4), .val (.ref r_15), .val (.int (p1 &&& (3 : Int32))), .val (.int z8), .val u_21, .val u_24, .val u_27, .val u_30, .val (.int z13), .val (.int z14), .unset, .unset, .unset] [(.int z15)])) (fun kz => ?_) ?_
  · by_cases hv_33 : (((p1.toUInt32 >>> ((10 : Int32) &&& 31).toUInt32).toInt32) &&& (1 : Int32)) = (0 : Int32)
    · refine own_via (fun _ => XS.ifYes X_29.here hx rfl (pc0 := 156) (pc' := 163) rfl (hb hby at_156) rfl ((if0 _ _).trans (teq (hv_33 : (((p1.toUInt32 >>> ((10 : Int32) &&& 31).toUInt32).toInt32) &&& (1 : Int32)) = (0 : Int32))).1) (by decide) (by decide)) ?_
      show own_Go p e below _ (T_29.setTop (mkF m 163 #[.val (.int p1), .val (.int p2), .val (.int p3), .val (.int p4), .val (.ref b_1), .val (.ref b_4), .val (.ref r_15), .val (.int (p1 &&& (3 : Int32))), .val (.int z8), .val u_21, .val u_24, .val u_27, .val u_30, .val (.int z13), .val (.int z14), .unset, .unset, .unset] []))
      refine own_via (fun _ => XS.iconst X_29.here hx rfl (hb hby at_163)) ?_
      show own_Go p e below _ (T_29.setTop (mkF m 164 #[.val (.int p1), .val (.int p2), .val (.int p3), .val (.int p4), .val (.ref b_1), .val (.ref b_4), .val (.ref r_15), .val (.int (p1 &&& (3 : Int32))), .val (.int z8), .val u_21, .val u_24, .val u_27, .val u_30, .val (.int z13), .val (.int z14), .unset, .unset, .unset] [(.int (0 : Int32))]))
      rw [if_pos hv_33] at ez15
      subst ez15
      exact kz
    · refine own_via (fun _ => XS.ifNo X_29.here hx rfl (hb hby at_156) rfl ((if0 _ _).trans (feq (hv_33 : ¬ ((((p1.toUInt32 >>> ((10 : Int32) &&& 31).toUInt32).toInt32) &&& (1 : Int32)) = (0 : Int32)))).1)) ?_
      show own_Go p e below _ (T_29.setTop (mkF m 159 #[.val (.int p1), .val (.int p2), .val (.int p3), .val (.int p4), .val (.ref b_1), .val (.ref b_4), .val (.ref r_15), .val (.int (p1 &&& (3 : Int32))), .val (.int z8), .val u_21, .val u_24, .val u_27, .val u_30, .val (.int z13), .val (.int z14), .unset, .unset, .unset] []))
      refine own_via (fun _ => XS.iconst X_29.here hx rfl (hb hby at_159)) ?_
      show own_Go p e below _ (T_29.setTop (mkF m 160 #[.val (.int p1), .val (.int p2), .val (.int p3), .val (.int p4), .val (.ref b_1), .val (.ref b_4), .val (.ref r_15), .val (.int (p1 &&& (3 : Int32))), .val (.int z8), .val u_21, .val u_24, .val u_27, .val u_30, .val (.int z13), .val (.int z14), .unset, .unset, .unset] [(.int (1 : Int32))]))
      refine own_via (fun _ => XS.goto X_29.here hx rfl (pc0 := 160) (pc' := 164) rfl (hb hby at_160) (by decide) (by decide)) ?_
      show own_Go p e below _ (T_29.setTop (mkF m 164 #[.val (.int p1), .val (.int p2), .val (.int p3), .val (.int p4), .val (.ref b_1), .val (.ref b_4), .val (.ref r_15), .val (.int (p1 &&& (3 : Int32))), .val (.int z8), .val u_21, .val u_24, .val u_27, .val u_30, .val (.int z13), .val (.int z14), .unset, .unset, .unset] [(.int (1 : Int32))]))
      rw [if_neg hv_33] at ez15
      subst ez15
      exact kz
  show own_Go p e below _ (T_29.setTop (mkF m 164 #[.val (.int p1), .val (.int p2), .val (.int p3), .val (.int p4), .val (.ref b_1), .val (.ref b_4), .val (.ref r_15), .val (.int (p1 &&& (3 : Int32))), .val (.int z8), .val u_21, .val u_24, .val u_27, .val u_30, .val (.int z13), .val (.int z14), .unset, .unset, .unset] [(.int z15)]))
  refine own_via (fun _ => XS.istore X_29.here hx rfl (hb hby at_164) rfl (l' := #[.val (.int p1), .val (.int p2), .val (.int p3), .val (.int p4), .val (.ref b_1), .val (.ref b_4), .val (.ref r_15), .val (.int (p1 &&& (3 : Int32))), .val (.int z8), .val u_21, .val u_24, .val u_27, .val u_30, .val (.int z13), .val (.int z14), .val (.int z15), .unset, .unset]) rfl) ?_
  show own_Go p e below _ (T_29.setTop (mkF m 166 #[.val (.int p1), .val (.int p2), .val (.int p3), .val (.int p4), .val (.ref b_1), .val (.ref b_4), .val (.ref r_15), .val (.int (p1 &&& (3 : Int32))), .val (.int z8), .val u_21, .val u_24, .val u_27, .val u_30, .val (.int z13), .val (.int z14), .val (.int z15), .unset, .unset] []))
  refine own_via (fun _ => XS.aconstNull X_29.here hx rfl (hb hby at_166)) ?_
  show own_Go p e below _ (T_29.setTop (mkF m 167 #[.val (.int p1), .val (.int p2), .val (.int p3), .val (.int p4), .val (.ref b_1), .val (.ref b_4), .val (.ref r_15), .val (.int (p1 &&& (3 : Int32))), .val (.int z8), .val u_21, .val u_24, .val u_27, .val u_30, .val (.int z13), .val (.int z14), .val (.int z15), .unset, .unset] [.null]))
  refine own_via (fun _ => XS.astore X_29.here hx rfl (hb hby at_167) rfl rfl (l' := #[.val (.int p1), .val (.int p2), .val (.int p3), .val (.int p4), .val (.ref b_1), .val (.ref b_4), .val (.ref r_15), .val (.int (p1 &&& (3 : Int32))), .val (.int z8), .val u_21, .val u_24, .val u_27, .val u_30, .val (.int z13), .val (.int z14), .val (.int z15), .val .null, .unset]) rfl) ?_
  show own_Go p e below _ (T_29.setTop (mkF m 169 #[.val (.int p1), .val (.int p2), .val (.int p3), .val (.int p4), .val (.ref b_1), .val (.ref b_4), .val (.ref r_15), .val (.int (p1 &&& (3 : Int32))), .val (.int z8), .val u_21, .val u_24, .val u_27, .val u_30, .val (.int z13), .val (.int z14), .val (.int z15), .val .null, .unset] []))
  refine own_via (fun _ => XS.iload X_29.here hx rfl (hb hby at_169) rfl) ?_
  show own_Go p e below _ (T_29.setTop (mkF m 171 #[.val (.int p1), .val (.int p2), .val (.int p3), .val (.int p4), .val (.ref b_1), .val (.ref b_4), .val (.ref r_15), .val (.int (p1 &&& (3 : Int32))), .val (.int z8), .val u_21, .val u_24, .val u_27, .val u_30, .val (.int z13), .val (.int z14), .val (.int z15), .val .null, .unset] [(.int z13)]))
  by_cases h13 : z13 = (0 : Int32)
  · refine own_via (fun _ => XS.ifYes X_29.here hx rfl (pc0 := 171) (pc' := 196) rfl (hb hby at_171) rfl ((if0 _ _).trans (teq (h13 : z13 = (0 : Int32))).1) (by decide) (by decide)) ?_
    show own_Go p e below _ (T_29.setTop (mkF m 196 #[.val (.int p1), .val (.int p2), .val (.int p3), .val (.int p4), .val (.ref b_1), .val (.ref b_4), .val (.ref r_15), .val (.int (p1 &&& (3 : Int32))), .val (.int z8), .val u_21, .val u_24, .val u_27, .val u_30, .val (.int z13), .val (.int z14), .val (.int z15), .val .null, .unset] []))
    obtain ⟨T_34, h_34, X_34, e_34, E_34, A_34, D_34, -, st_34⟩ := newO X_29 hx hZ_29 ho_29 (own_w hw 48 rfl) (own_w hw 49 rfl) (own_w hw 50 rfl) rfl (g := (mkF m 196 #[.val (.int p1), .val (.int p2), .val (.int p3), .val (.int p4), .val (.ref b_1), .val (.ref b_4), .val (.ref r_15), .val (.int (p1 &&& (3 : Int32))), .val (.int z8), .val u_21, .val u_24, .val u_27, .val u_30, .val (.int z13), .val (.int z14), .val (.int z15), .val .null, .unset] [])) rfl (hb hby at_196) (by decide) (by decide)
    obtain ⟨b_34, g_34⟩ : ∃ z, z = T_29.heap.size := ⟨_, rfl⟩
    rw [← g_34] at A_34 D_34 st_34
    have F_35 : Fld Z h_34 b_34 "com/example/jobwright/jobwright/JobChain$Node" "state" "Ljava/lang/String;" .null := D_34 (Or.inr (own_w hw 61 rfl)) (ty := (.object "java/lang/String")) (by decide)
    have F_36 : Fld Z h_34 b_34 "com/example/jobwright/jobwright/JobChain$Node" "job" "Ljava/lang/String;" .null := D_34 (Or.inr (own_w hw 63 rfl)) (ty := (.object "java/lang/String")) (by decide)
    have F_37 : Fld Z h_34 b_34 "com/example/jobwright/jobwright/JobChain$Node" "nextState" "Ljava/lang/String;" .null := D_34 (Or.inr (own_w hw 65 rfl)) (ty := (.object "java/lang/String")) (by decide)
    have F_38 : Fld Z h_34 b_34 "com/example/jobwright/jobwright/JobChain$Node" "errorState" "Ljava/lang/String;" .null := D_34 (Or.inr (own_w hw 67 rfl)) (ty := (.object "java/lang/String")) (by decide)
    have F_39 : Fld Z h_34 b_34 "com/example/jobwright/jobwright/JobChain$Node" "sink" "Lcom/example/jobwright/jobwright/FileOrderSink;" .null := D_34 (Or.inr (own_w hw 69 rfl)) (ty := (.object "com/example/jobwright/jobwright/FileOrderSink")) (by decide)
    have F_40 : Fld Z h_34 b_34 "com/example/jobwright/jobwright/JobChain$Node" "line" "I" (.int (0 : Int32)) := D_34 (Or.inr (own_w hw 71 rfl)) (ty := .int) (by decide)
    refine own_via st_34 ?_
    show own_Go p e below _ (T_34.setTop (mkF m 199 #[.val (.int p1), .val (.int p2), .val (.int p3), .val (.int p4), .val (.ref b_1), .val (.ref b_4), .val (.ref r_15), .val (.int (p1 &&& (3 : Int32))), .val (.int z8), .val u_21, .val u_24, .val u_27, .val u_30, .val (.int z13), .val (.int z14), .val (.int z15), .val .null, .unset] [(.ref b_34)]))
    refine own_via (fun _ => XS.dup X_34.here hx rfl (hb hby at_199) rfl rfl) ?_
    show own_Go p e below _ (T_34.setTop (mkF m 200 #[.val (.int p1), .val (.int p2), .val (.int p3), .val (.int p4), .val (.ref b_1), .val (.ref b_4), .val (.ref r_15), .val (.int (p1 &&& (3 : Int32))), .val (.int z8), .val u_21, .val u_24, .val u_27, .val u_30, .val (.int z13), .val (.int z14), .val (.int z15), .val .null, .unset] [(.ref b_34), (.ref b_34)]))
    refine own_via (fun _ => XS.aload X_34.here hx rfl (hb hby at_200) rfl q_23_0) ?_
    show own_Go p e below _ (T_34.setTop (mkF m 202 #[.val (.int p1), .val (.int p2), .val (.int p3), .val (.int p4), .val (.ref b_1), .val (.ref b_4), .val (.ref r_15), .val (.int (p1 &&& (3 : Int32))), .val (.int z8), .val u_21, .val u_24, .val u_27, .val u_30, .val (.int z13), .val (.int z14), .val (.int z15), .val .null, .unset] [u_24, (.ref b_34), (.ref b_34)]))
    refine own_via (fun _ => XS.aload X_34.here hx rfl (hb hby at_202) rfl q_20_0) ?_
    show own_Go p e below _ (T_34.setTop (mkF m 204 #[.val (.int p1), .val (.int p2), .val (.int p3), .val (.int p4), .val (.ref b_1), .val (.ref b_4), .val (.ref r_15), .val (.int (p1 &&& (3 : Int32))), .val (.int z8), .val u_21, .val u_24, .val u_27, .val u_30, .val (.int z13), .val (.int z14), .val (.int z15), .val .null, .unset] [u_21, u_24, (.ref b_34), (.ref b_34)]))
    refine own_via (fun _ => XS.aload X_34.here hx rfl (hb hby at_204) rfl q_26_0) ?_
    show own_Go p e below _ (T_34.setTop (mkF m 206 #[.val (.int p1), .val (.int p2), .val (.int p3), .val (.int p4), .val (.ref b_1), .val (.ref b_4), .val (.ref r_15), .val (.int (p1 &&& (3 : Int32))), .val (.int z8), .val u_21, .val u_24, .val u_27, .val u_30, .val (.int z13), .val (.int z14), .val (.int z15), .val .null, .unset] [u_27, u_21, u_24, (.ref b_34), (.ref b_34)]))
    refine own_via (fun _ => XS.aload X_34.here hx rfl (hb hby at_206) rfl q_29_0) ?_
    show own_Go p e below _ (T_34.setTop (mkF m 208 #[.val (.int p1), .val (.int p2), .val (.int p3), .val (.int p4), .val (.ref b_1), .val (.ref b_4), .val (.ref r_15), .val (.int (p1 &&& (3 : Int32))), .val (.int z8), .val u_21, .val u_24, .val u_27, .val u_30, .val (.int z13), .val (.int z14), .val (.int z15), .val .null, .unset] [u_30, u_27, u_21, u_24, (.ref b_34), (.ref b_34)]))
    refine own_via (fun _ => XS.aload X_34.here hx rfl (hb hby at_208) rfl rfl) ?_
    show own_Go p e below _ (T_34.setTop (mkF m 210 #[.val (.int p1), .val (.int p2), .val (.int p3), .val (.int p4), .val (.ref b_1), .val (.ref b_4), .val (.ref r_15), .val (.int (p1 &&& (3 : Int32))), .val (.int z8), .val u_21, .val u_24, .val u_27, .val u_30, .val (.int z13), .val (.int z14), .val (.int z15), .val .null, .unset] [.null, u_30, u_27, u_21, u_24, (.ref b_34), (.ref b_34)]))
    refine own_via (fun _ => XS.iloadN X_34.here hx rfl (hb hby at_210) rfl) ?_
    show own_Go p e below _ (T_34.setTop (mkF m 211 #[.val (.int p1), .val (.int p2), .val (.int p3), .val (.int p4), .val (.ref b_1), .val (.ref b_4), .val (.ref r_15), .val (.int (p1 &&& (3 : Int32))), .val (.int z8), .val u_21, .val u_24, .val u_27, .val u_30, .val (.int z13), .val (.int z14), .val (.int z15), .val .null, .unset] [(.int p4), .null, u_30, u_27, u_21, u_24, (.ref b_34), (.ref b_34)]))
    have K_41 : Keep h0 T_29.heap [] := Keep.trans (ws := []) K_28 K_29q all0
    have K_42 : Keep h0 h_34 [] := K_41.ext E_34
    obtain ⟨_, _, ⟨T_43, L_43, k_43, n_43⟩, -, X_43, ⟨Lc_43, hQ_43, l_43, y_43, z_43⟩, st_43⟩ := X_34.specialBack hx (y := (⟨"com/example/jobwright/jobwright/JobChain$Node", "<init>", "(Ljava/lang/String;Ljava/lang/String;Ljava/lang/String;Ljava/lang/String;Lcom/example/jobwright/jobwright/FileOrderSink;I)V"⟩ : MethodName)) rfl ho_29 (mvT hZ_29 (own_w hw 51 rfl)) (mvT hZ_29 (own_w hw 52 rfl)) (mvT hZ_29 (own_w hw 53 rfl)) (by decide) (backOf (W := 1) (rmnode l Z a0 hw [] b_34 u_24 u_21 u_27 u_30 .null p4 h_34 n0 (Nat.le_trans Z0 K_42.1) A_34 F_35 F_36 F_37 F_38 F_39 F_40 (Nat.le_trans Z0 (Nat.le_trans K_41.1 (Nat.le_of_eq g_34.symm))) q_23_0 q_20_0 q_26_0 q_29_0 rfl) hZ_29 (own_w hw 53 rfl) (own_w hw 50 rfl) (by decide) (by decide)) (g := (mkF m 211 #[.val (.int p1), .val (.int p2), .val (.int p3), .val (.int p4), .val (.ref b_1), .val (.ref b_4), .val (.ref r_15), .val (.int (p1 &&& (3 : Int32))), .val (.int z8), .val u_21, .val u_24, .val u_27, .val u_30, .val (.int z13), .val (.int z14), .val (.int z15), .val .null, .unset] [(.int p4), .null, u_30, u_27, u_21, u_24, (.ref b_34), (.ref b_34)])) rfl (by rw [hml]; rfl) (Steps.refl _) (a := b_34) (argsL := [u_24, u_21, u_27, u_30, .null, (.int p4)]) (rest := [(.ref b_34)]) (lenOf pd_8 rfl) rfl (by show 2 * 0 + _ ≤ _; exact Nat.le_of_eq rfl) (hb hby at_211) (fun _ _ => ⟨rfl, e_34, (by decide : 14 + 0 ≤ _), (by decide : 35 + 0 ≤ _)⟩)
    dsimp only [Pt.U, Pt.locs, Pt.cells, Pt.slots] at X_43 l_43 y_43 z_43 st_43 hQ_43
    subst l_43 y_43 z_43
    obtain ⟨rfl, Nq_43, K_43q, q_43_0⟩ := hQ_43
    have N_43 := Fr.app N_29 Nq_43
    refine own_via (fun _ k => st_43.trans k) ?_
    show own_Go p e below _ (T_43.setTop (mkF m 214 #[.val (.int p1), .val (.int p2), .val (.int p3), .val (.int p4), .val (.ref b_1), .val (.ref b_4), .val (.ref r_15), .val (.int (p1 &&& (3 : Int32))), .val (.int z8), .val u_21, .val u_24, .val u_27, .val u_30, .val (.int z13), .val (.int z14), .val (.int z15), .val .null, .unset] [(.ref b_34)]))
    refine own_via (fun _ => XS.astore X_43.here hx rfl (hb hby at_214) rfl rfl (l' := #[.val (.int p1), .val (.int p2), .val (.int p3), .val (.int p4), .val (.ref b_1), .val (.ref b_4), .val (.ref r_15), .val (.int (p1 &&& (3 : Int32))), .val (.int z8), .val u_21, .val u_24, .val u_27, .val u_30, .val (.int z13), .val (.int z14), .val (.int z15), .val .null, .val (.ref b_34)]) rfl) ?_
    show own_Go p e below _ (T_43.setTop (mkF m 216 #[.val (.int p1), .val (.int p2), .val (.int p3), .val (.int p4), .val (.ref b_1), .val (.ref b_4), .val (.ref r_15), .val (.int (p1 &&& (3 : Int32))), .val (.int z8), .val u_21, .val u_24, .val u_27, .val u_30, .val (.int z13), .val (.int z14), .val (.int z15), .val .null, .val (.ref b_34)] []))
    refine own_via (fun _ => XS.aload X_43.here hx rfl (hb hby at_216) rfl rfl) ?_
    show own_Go p e below _ (T_43.setTop (mkF m 218 #[.val (.int p1), .val (.int p2), .val (.int p3), .val (.int p4), .val (.ref b_1), .val (.ref b_4), .val (.ref r_15), .val (.int (p1 &&& (3 : Int32))), .val (.int z8), .val u_21, .val u_24, .val u_27, .val u_30, .val (.int z13), .val (.int z14), .val (.int z15), .val .null, .val (.ref b_34)] [(.ref b_34)]))
    have K_44 : Keep h0 T_43.heap [] := Keep.trans (ws := []) K_42 K_43q (allS (Or.inr (Nat.le_trans K_41.1 (Nat.le_of_eq g_34.symm))) all0)
    have K_46 : Keep h_34 T_43.heap [b_34] := Keep.trans (ws := [b_34]) (own_keep_mono (Keep.refl h_34 []) (by simp)) K_43q (allS (Or.inl (List.mem_of_getElem? (i := 0) rfl)) all0)
    obtain ⟨cq_45, kq_45, q_45a, q_45b, q_45c⟩ := isOf hZ_29 rfl (A_34.keep K_46)
    obtain ⟨_, _, ⟨T_45, L_45, k_45, n_45⟩, -, X_45, ⟨Lc_45, hQ_45, l_45, y_45, z_45⟩, st_45⟩ := X_43.virtualBack hx (y := (⟨"com/example/jobwright/jobwright/JobChain$Node", "isEnd", "()Z"⟩ : MethodName)) (z := (⟨"com/example/jobwright/jobwright/JobChain$Node", "isEnd", "()Z"⟩ : MethodName)) ho_29 (mvT hZ_29 (own_w hw 72 rfl)) (mvT hZ_29 (own_w hw 73 rfl)) (notFace_of_selects (args := #[]) (mvT hZ_29 (own_w hw 75 rfl))) (mvT hZ_29 (own_w hw 75 rfl)) (mvT hZ_29 (own_w hw 74 rfl)) (by decide) (backOf (W := 0) (rmisEnd l Z a0 hw [] b_34 u_21 T_43.heap n0 (Nat.le_trans Z0 K_44.1) q_43_0 q_20_0) hZ_29 (own_w hw 76 rfl) (own_w hw 50 rfl) (by decide) (by decide)) q_45a q_45c (g := (mkF m 218 #[.val (.int p1), .val (.int p2), .val (.int p3), .val (.int p4), .val (.ref b_1), .val (.ref b_4), .val (.ref r_15), .val (.int (p1 &&& (3 : Int32))), .val (.int z8), .val u_21, .val u_24, .val u_27, .val u_30, .val (.int z13), .val (.int z14), .val (.int z15), .val .null, .val (.ref b_34)] [(.ref b_34)])) rfl (by rw [hml]; rfl) (Steps.refl _) (argsL := []) (rest := []) (lenOf pd_9 rfl) rfl (by show 2 * 0 + _ ≤ _; exact Nat.le_of_eq rfl) (hb hby at_218) (fun _ _ => ⟨rfl, rfl, (by decide : 14 + 0 ≤ _), (by decide : 35 + 0 ≤ _)⟩)
    dsimp only [Pt.U, Pt.locs, Pt.cells, Pt.slots] at X_45 l_45 y_45 z_45 st_45 hQ_45
    subst l_45 y_45 z_45
    obtain ⟨i_47, rfl, Nq_45, K_45q, q_45_0⟩ := hQ_45
    have N_45 := Fr.app N_43 Nq_45
    refine own_via (fun _ k => st_45.trans k) ?_
    show own_Go p e below _ (T_45.setTop (mkF m 221 #[.val (.int p1), .val (.int p2), .val (.int p3), .val (.int p4), .val (.ref b_1), .val (.ref b_4), .val (.ref r_15), .val (.int (p1 &&& (3 : Int32))), .val (.int z8), .val u_21, .val u_24, .val u_27, .val u_30, .val (.int z13), .val (.int z14), .val (.int z15), .val .null, .val (.ref b_34)] [(.int i_47)]))
    refine own_via (fun _ => XS.iload X_45.here hx rfl (hb hby at_221) rfl) ?_
    show own_Go p e below _ (T_45.setTop (mkF m 223 #[.val (.int p1), .val (.int p2), .val (.int p3), .val (.int p4), .val (.ref b_1), .val (.ref b_4), .val (.ref r_15), .val (.int (p1 &&& (3 : Int32))), .val (.int z8), .val u_21, .val u_24, .val u_27, .val u_30, .val (.int z13), .val (.int z14), .val (.int z15), .val .null, .val (.ref b_34)] [(.int z8), (.int i_47)]))
    refine own_via (fun _ => XS.icmpNo X_45.here hx rfl (hb hby at_223) rfl (teq (own_fin q_20_1 ez8 q_45_0 : i_47 = z8)).2) ?_
    show own_Go p e below _ (T_45.setTop (mkF m 226 #[.val (.int p1), .val (.int p2), .val (.int p3), .val (.int p4), .val (.ref b_1), .val (.ref b_4), .val (.ref r_15), .val (.int (p1 &&& (3 : Int32))), .val (.int z8), .val u_21, .val u_24, .val u_27, .val u_30, .val (.int z13), .val (.int z14), .val (.int z15), .val .null, .val (.ref b_34)] []))
    refine own_via (fun _ => XS.iconst X_45.here hx rfl (hb hby at_226)) ?_
    show own_Go p e below _ (T_45.setTop (mkF m 227 #[.val (.int p1), .val (.int p2), .val (.int p3), .val (.int p4), .val (.ref b_1), .val (.ref b_4), .val (.ref r_15), .val (.int (p1 &&& (3 : Int32))), .val (.int z8), .val u_21, .val u_24, .val u_27, .val u_30, .val (.int z13), .val (.int z14), .val (.int z15), .val .null, .val (.ref b_34)] [(.int (1 : Int32))]))
    refine own_via (fun _ => XS.goto X_45.here hx rfl (pc0 := 227) (pc' := 231) rfl (hb hby at_227) (by decide) (by decide)) ?_
    show own_Go p e below _ (T_45.setTop (mkF m 231 #[.val (.int p1), .val (.int p2), .val (.int p3), .val (.int p4), .val (.ref b_1), .val (.ref b_4), .val (.ref r_15), .val (.int (p1 &&& (3 : Int32))), .val (.int z8), .val u_21, .val u_24, .val u_27, .val u_30, .val (.int z13), .val (.int z14), .val (.int z15), .val .null, .val (.ref b_34)] [(.int (1 : Int32))]))
    have K_48 : Keep h0 T_45.heap [] := Keep.trans (ws := []) K_44 K_45q all0
    have K_49 : Keep T_29.heap h_34 [] := (Keep.refl T_29.heap []).ext E_34
    have K_50 : Keep T_29.heap T_43.heap [] := Keep.trans (ws := []) K_49 K_43q (allS (Or.inr (Nat.le_of_eq g_34.symm)) all0)
    have K_51 : Keep T_29.heap T_45.heap [] := Keep.trans (ws := []) K_50 K_45q all0
    exact own_retvW X_45 hS_29 (Nat.le_trans (Nat.le_refl _) K_51.1) Bd.notSynchronized hx Bd.returns rfl (Or.inl ⟨rfl, (by simp), _, rfl⟩) (hb hby at_231) (by decide) (by decide) ⟨rfl, N_45, K_48⟩
  · refine own_via (fun _ => XS.ifNo X_29.here hx rfl (hb hby at_171) rfl ((if0 _ _).trans (feq (h13 : ¬ (z13 = (0 : Int32)))).1)) ?_
    show own_Go p e below _ (T_29.setTop (mkF m 174 #[.val (.int p1), .val (.int p2), .val (.int p3), .val (.int p4), .val (.ref b_1), .val (.ref b_4), .val (.ref r_15), .val (.int (p1 &&& (3 : Int32))), .val (.int z8), .val u_21, .val u_24, .val u_27, .val u_30, .val (.int z13), .val (.int z14), .val (.int z15), .val .null, .unset] []))
    obtain ⟨T_52, h_52, X_52, e_52, E_52, A_52, D_52, -, st_52⟩ := newO X_29 hx hZ_29 ho_29 (own_w hw 80 rfl) (own_w hw 81 rfl) (own_w hw 82 rfl) rfl (g := (mkF m 174 #[.val (.int p1), .val (.int p2), .val (.int p3), .val (.int p4), .val (.ref b_1), .val (.ref b_4), .val (.ref r_15), .val (.int (p1 &&& (3 : Int32))), .val (.int z8), .val u_21, .val u_24, .val u_27, .val u_30, .val (.int z13), .val (.int z14), .val (.int z15), .val .null, .unset] [])) rfl (hb hby at_174) (by decide) (by decide)
    obtain ⟨b_52, g_52⟩ : ∃ z, z = T_29.heap.size := ⟨_, rfl⟩
    rw [← g_52] at A_52 D_52 st_52
    have F_53 : Fld Z h_52 b_52 "com/example/jobwright/jobwright/FileOrderSink" "moveTo" "Ljava/lang/String;" .null := D_52 (Or.inr (own_w hw 88 rfl)) (ty := (.object "java/lang/String")) (by decide)
    have F_54 : Fld Z h_52 b_52 "com/example/jobwright/jobwright/FileOrderSink" "remove" "Z" (.int (0 : Int32)) := D_52 (Or.inr (own_w hw 90 rfl)) (ty := .boolean) (by decide)
    refine own_via st_52 ?_
    show own_Go p e below _ (T_52.setTop (mkF m 177 #[.val (.int p1), .val (.int p2), .val (.int p3), .val (.int p4), .val (.ref b_1), .val (.ref b_4), .val (.ref r_15), .val (.int (p1 &&& (3 : Int32))), .val (.int z8), .val u_21, .val u_24, .val u_27, .val u_30, .val (.int z13), .val (.int z14), .val (.int z15), .val .null, .unset] [(.ref b_52)]))
    refine own_via (fun _ => XS.dup X_52.here hx rfl (hb hby at_177) rfl rfl) ?_
    show own_Go p e below _ (T_52.setTop (mkF m 178 #[.val (.int p1), .val (.int p2), .val (.int p3), .val (.int p4), .val (.ref b_1), .val (.ref b_4), .val (.ref r_15), .val (.int (p1 &&& (3 : Int32))), .val (.int z8), .val u_21, .val u_24, .val u_27, .val u_30, .val (.int z13), .val (.int z14), .val (.int z15), .val .null, .unset] [(.ref b_52), (.ref b_52)]))
    refine own_via (fun _ => XS.iload X_52.here hx rfl (hb hby at_178) rfl) ?_
    show own_Go p e below _ (T_52.setTop (mkF m 180 #[.val (.int p1), .val (.int p2), .val (.int p3), .val (.int p4), .val (.ref b_1), .val (.ref b_4), .val (.ref r_15), .val (.int (p1 &&& (3 : Int32))), .val (.int z8), .val u_21, .val u_24, .val u_27, .val u_30, .val (.int z13), .val (.int z14), .val (.int z15), .val .null, .unset] [(.int z14), (.ref b_52), (.ref b_52)]))
    by_cases h14 : z14 = (0 : Int32)
    · refine own_via (fun _ => XS.ifYes X_52.here hx rfl (pc0 := 180) (pc' := 188) rfl (hb hby at_180) rfl ((if0 _ _).trans (teq (h14 : z14 = (0 : Int32))).1) (by decide) (by decide)) ?_
      show own_Go p e below _ (T_52.setTop (mkF m 188 #[.val (.int p1), .val (.int p2), .val (.int p3), .val (.int p4), .val (.ref b_1), .val (.ref b_4), .val (.ref r_15), .val (.int (p1 &&& (3 : Int32))), .val (.int z8), .val u_21, .val u_24, .val u_27, .val u_30, .val (.int z13), .val (.int z14), .val (.int z15), .val .null, .unset] [(.ref b_52), (.ref b_52)]))
      refine own_via (fun _ => XS.aconstNull X_52.here hx rfl (hb hby at_188)) ?_
      show own_Go p e below _ (T_52.setTop (mkF m 189 #[.val (.int p1), .val (.int p2), .val (.int p3), .val (.int p4), .val (.ref b_1), .val (.ref b_4), .val (.ref r_15), .val (.int (p1 &&& (3 : Int32))), .val (.int z8), .val u_21, .val u_24, .val u_27, .val u_30, .val (.int z13), .val (.int z14), .val (.int z15), .val .null, .unset] [.null, (.ref b_52), (.ref b_52)]))
      refine own_via (fun _ => XS.iload X_52.here hx rfl (hb hby at_189) rfl) ?_
      show own_Go p e below _ (T_52.setTop (mkF m 191 #[.val (.int p1), .val (.int p2), .val (.int p3), .val (.int p4), .val (.ref b_1), .val (.ref b_4), .val (.ref r_15), .val (.int (p1 &&& (3 : Int32))), .val (.int z8), .val u_21, .val u_24, .val u_27, .val u_30, .val (.int z13), .val (.int z14), .val (.int z15), .val .null, .unset] [(.int z15), .null, (.ref b_52), (.ref b_52)]))
      have K_55 : Keep h0 T_29.heap [] := Keep.trans (ws := []) K_28 K_29q all0
      have K_56 : Keep h0 h_52 [] := K_55.ext E_52
      obtain ⟨_, _, ⟨T_57, L_57, k_57, n_57⟩, -, X_57, ⟨Lc_57, hQ_57, l_57, y_57, z_57⟩, st_57⟩ := X_52.specialBack hx (y := (⟨"com/example/jobwright/jobwright/FileOrderSink", "<init>", "(Ljava/lang/String;Z)V"⟩ : MethodName)) rfl ho_29 (mvT hZ_29 (own_w hw 83 rfl)) (mvT hZ_29 (own_w hw 84 rfl)) (mvT hZ_29 (own_w hw 85 rfl)) (by decide) (backOf (W := 1) (rmsink l Z a0 hw [] b_52 .null z15 h_52 n0 (Nat.le_trans Z0 K_56.1) A_52 F_53 F_54 (Nat.le_trans Z0 (Nat.le_trans K_55.1 (Nat.le_of_eq g_52.symm))) rfl) hZ_29 (own_w hw 85 rfl) (own_w hw 82 rfl) (by decide) (by decide)) (g := (mkF m 191 #[.val (.int p1), .val (.int p2), .val (.int p3), .val (.int p4), .val (.ref b_1), .val (.ref b_4), .val (.ref r_15), .val (.int (p1 &&& (3 : Int32))), .val (.int z8), .val u_21, .val u_24, .val u_27, .val u_30, .val (.int z13), .val (.int z14), .val (.int z15), .val .null, .unset] [(.int z15), .null, (.ref b_52), (.ref b_52)])) rfl (by rw [hml]; rfl) (Steps.refl _) (a := b_52) (argsL := [.null, (.int z15)]) (rest := [(.ref b_52)]) (lenOf pd_7 rfl) rfl (by show 2 * 0 + _ ≤ _; exact Nat.le_of_eq rfl) (hb hby at_191) (fun _ _ => ⟨rfl, e_52, (by decide : 14 + 0 ≤ _), (by decide : 31 + 0 ≤ _)⟩)
      dsimp only [Pt.U, Pt.locs, Pt.cells, Pt.slots] at X_57 l_57 y_57 z_57 st_57 hQ_57
      subst l_57 y_57 z_57
      obtain ⟨rfl, Nq_57, K_57q⟩ := hQ_57
      have N_57 := Fr.app N_29 Nq_57
      refine own_via (fun _ k => st_57.trans k) ?_
      show own_Go p e below _ (T_57.setTop (mkF m 194 #[.val (.int p1), .val (.int p2), .val (.int p3), .val (.int p4), .val (.ref b_1), .val (.ref b_4), .val (.ref r_15), .val (.int (p1 &&& (3 : Int32))), .val (.int z8), .val u_21, .val u_24, .val u_27, .val u_30, .val (.int z13), .val (.int z14), .val (.int z15), .val .null, .unset] [(.ref b_52)]))
      refine own_via (fun _ => XS.astore X_57.here hx rfl (hb hby at_194) rfl rfl (l' := #[.val (.int p1), .val (.int p2), .val (.int p3), .val (.int p4), .val (.ref b_1), .val (.ref b_4), .val (.ref r_15), .val (.int (p1 &&& (3 : Int32))), .val (.int z8), .val u_21, .val u_24, .val u_27, .val u_30, .val (.int z13), .val (.int z14), .val (.int z15), .val (.ref b_52), .unset]) rfl) ?_
      show own_Go p e below _ (T_57.setTop (mkF m 196 #[.val (.int p1), .val (.int p2), .val (.int p3), .val (.int p4), .val (.ref b_1), .val (.ref b_4), .val (.ref r_15), .val (.int (p1 &&& (3 : Int32))), .val (.int z8), .val u_21, .val u_24, .val u_27, .val u_30, .val (.int z13), .val (.int z14), .val (.int z15), .val (.ref b_52), .unset] []))
      obtain ⟨T_58, h_58, X_58, e_58, E_58, A_58, D_58, -, st_58⟩ := newO X_57 hx hZ_29 ho_29 (own_w hw 48 rfl) (own_w hw 49 rfl) (own_w hw 50 rfl) rfl (g := (mkF m 196 #[.val (.int p1), .val (.int p2), .val (.int p3), .val (.int p4), .val (.ref b_1), .val (.ref b_4), .val (.ref r_15), .val (.int (p1 &&& (3 : Int32))), .val (.int z8), .val u_21, .val u_24, .val u_27, .val u_30, .val (.int z13), .val (.int z14), .val (.int z15), .val (.ref b_52), .unset] [])) rfl (hb hby at_196) (by decide) (by decide)
      obtain ⟨b_58, g_58⟩ : ∃ z, z = T_57.heap.size := ⟨_, rfl⟩
      rw [← g_58] at A_58 D_58 st_58
      have F_59 : Fld Z h_58 b_58 "com/example/jobwright/jobwright/JobChain$Node" "state" "Ljava/lang/String;" .null := D_58 (Or.inr (own_w hw 61 rfl)) (ty := (.object "java/lang/String")) (by decide)
      have F_60 : Fld Z h_58 b_58 "com/example/jobwright/jobwright/JobChain$Node" "job" "Ljava/lang/String;" .null := D_58 (Or.inr (own_w hw 63 rfl)) (ty := (.object "java/lang/String")) (by decide)
      have F_61 : Fld Z h_58 b_58 "com/example/jobwright/jobwright/JobChain$Node" "nextState" "Ljava/lang/String;" .null := D_58 (Or.inr (own_w hw 65 rfl)) (ty := (.object "java/lang/String")) (by decide)
      have F_62 : Fld Z h_58 b_58 "com/example/jobwright/jobwright/JobChain$Node" "errorState" "Ljava/lang/String;" .null := D_58 (Or.inr (own_w hw 67 rfl)) (ty := (.object "java/lang/String")) (by decide)
      have F_63 : Fld Z h_58 b_58 "com/example/jobwright/jobwright/JobChain$Node" "sink" "Lcom/example/jobwright/jobwright/FileOrderSink;" .null := D_58 (Or.inr (own_w hw 69 rfl)) (ty := (.object "com/example/jobwright/jobwright/FileOrderSink")) (by decide)
      have F_64 : Fld Z h_58 b_58 "com/example/jobwright/jobwright/JobChain$Node" "line" "I" (.int (0 : Int32)) := D_58 (Or.inr (own_w hw 71 rfl)) (ty := .int) (by decide)
      refine own_via st_58 ?_
      show own_Go p e below _ (T_58.setTop (mkF m 199 #[.val (.int p1), .val (.int p2), .val (.int p3), .val (.int p4), .val (.ref b_1), .val (.ref b_4), .val (.ref r_15), .val (.int (p1 &&& (3 : Int32))), .val (.int z8), .val u_21, .val u_24, .val u_27, .val u_30, .val (.int z13), .val (.int z14), .val (.int z15), .val (.ref b_52), .unset] [(.ref b_58)]))
      refine own_via (fun _ => XS.dup X_58.here hx rfl (hb hby at_199) rfl rfl) ?_
      show own_Go p e below _ (T_58.setTop (mkF m 200 #[.val (.int p1), .val (.int p2), .val (.int p3), .val (.int p4), .val (.ref b_1), .val (.ref b_4), .val (.ref r_15), .val (.int (p1 &&& (3 : Int32))), .val (.int z8), .val u_21, .val u_24, .val u_27, .val u_30, .val (.int z13), .val (.int z14), .val (.int z15), .val (.ref b_52), .unset] [(.ref b_58), (.ref b_58)]))
      refine own_via (fun _ => XS.aload X_58.here hx rfl (hb hby at_200) rfl q_23_0) ?_
      show own_Go p e below _ (T_58.setTop (mkF m 202 #[.val (.int p1), .val (.int p2), .val (.int p3), .val (.int p4), .val (.ref b_1), .val (.ref b_4), .val (.ref r_15), .val (.int (p1 &&& (3 : Int32))), .val (.int z8), .val u_21, .val u_24, .val u_27, .val u_30, .val (.int z13), .val (.int z14), .val (.int z15), .val (.ref b_52), .unset] [u_24, (.ref b_58), (.ref b_58)]))
      refine own_via (fun _ => XS.aload X_58.here hx rfl (hb hby at_202) rfl q_20_0) ?_
      show own_Go p e below _ (T_58.setTop (mkF m 204 #[.val (.int p1), .val (.int p2), .val (.int p3), .val (.int p4), .val (.ref b_1), .val (.ref b_4), .val (.ref r_15), .val (.int (p1 &&& (3 : Int32))), .val (.int z8), .val u_21, .val u_24, .val u_27, .val u_30, .val (.int z13), .val (.int z14), .val (.int z15), .val (.ref b_52), .unset] [u_21, u_24, (.ref b_58), (.ref b_58)]))
      refine own_via (fun _ => XS.aload X_58.here hx rfl (hb hby at_204) rfl q_26_0) ?_
      show own_Go p e below _ (T_58.setTop (mkF m 206 #[.val (.int p1), .val (.int p2), .val (.int p3), .val (.int p4), .val (.ref b_1), .val (.ref b_4), .val (.ref r_15), .val (.int (p1 &&& (3 : Int32))), .val (.int z8), .val u_21, .val u_24, .val u_27, .val u_30, .val (.int z13), .val (.int z14), .val (.int z15), .val (.ref b_52), .unset] [u_27, u_21, u_24, (.ref b_58), (.ref b_58)]))
      refine own_via (fun _ => XS.aload X_58.here hx rfl (hb hby at_206) rfl q_29_0) ?_
      show own_Go p e below _ (T_58.setTop (mkF m 208 #[.val (.int p1), .val (.int p2), .val (.int p3), .val (.int p4), .val (.ref b_1), .val (.ref b_4), .val (.ref r_15), .val (.int (p1 &&& (3 : Int32))), .val (.int z8), .val u_21, .val u_24, .val u_27, .val u_30, .val (.int z13), .val (.int z14), .val (.int z15), .val (.ref b_52), .unset] [u_30, u_27, u_21, u_24, (.ref b_58), (.ref b_58)]))
      refine own_via (fun _ => XS.aload X_58.here hx rfl (hb hby at_208) rfl rfl) ?_
      show own_Go p e below _ (T_58.setTop (mkF m 210 #[.val (.int p1), .val (.int p2), .val (.int p3), .val (.int p4), .val (.ref b_1), .val (.ref b_4), .val (.ref r_15), .val (.int (p1 &&& (3 : Int32))), .val (.int z8), .val u_21, .val u_24, .val u_27, .val u_30, .val (.int z13), .val (.int z14), .val (.int z15), .val (.ref b_52), .unset] [(.ref b_52), u_30, u_27, u_21, u_24, (.ref b_58), (.ref b_58)]))
      refine own_via (fun _ => XS.iloadN X_58.here hx rfl (hb hby at_210) rfl) ?_
      show own_Go p e below _ (T_58.setTop (mkF m 211 #[.val (.int p1), .val (.int p2), .val (.int p3), .val (.int p4), .val (.ref b_1), .val (.ref b_4), .val (.ref r_15), .val (.int (p1 &&& (3 : Int32))), .val (.int z8), .val u_21, .val u_24, .val u_27, .val u_30, .val (.int z13), .val (.int z14), .val (.int z15), .val (.ref b_52), .unset] [(.int p4), (.ref b_52), u_30, u_27, u_21, u_24, (.ref b_58), (.ref b_58)]))
      have K_65 : Keep h0 T_57.heap [] := Keep.trans (ws := []) K_56 K_57q (allS (Or.inr (Nat.le_trans K_55.1 (Nat.le_of_eq g_52.symm))) all0)
      have K_66 : Keep h0 h_58 [] := K_65.ext E_58
      obtain ⟨_, _, ⟨T_67, L_67, k_67, n_67⟩, -, X_67, ⟨Lc_67, hQ_67, l_67, y_67, z_67⟩, st_67⟩ := X_58.specialBack hx (y := (⟨"com/example/jobwright/jobwright/JobChain$Node", "<init>", "(Ljava/lang/String;Ljava/lang/String;Ljava/lang/String;Ljava/lang/String;Lcom/example/jobwright/jobwright/FileOrderSink;I)V"⟩ : MethodName)) rfl ho_29 (mvT hZ_29 (own_w hw 51 rfl)) (mvT hZ_29 (own_w hw 52 rfl)) (mvT hZ_29 (own_w hw 53 rfl)) (by decide) (backOf (W := 1) (rmnode l Z a0 hw [] b_58 u_24 u_21 u_27 u_30 (.ref b_52) p4 h_58 n0 (Nat.le_trans Z0 K_66.1) A_58 F_59 F_60 F_61 F_62 F_63 F_64 (Nat.le_trans Z0 (Nat.le_trans K_65.1 (Nat.le_of_eq g_58.symm))) q_23_0 q_20_0 q_26_0 q_29_0 rfl) hZ_29 (own_w hw 53 rfl) (own_w hw 50 rfl) (by decide) (by decide)) (g := (mkF m 211 #[.val (.int p1), .val (.int p2), .val (.int p3), .val (.int p4), .val (.ref b_1), .val (.ref b_4), .val (.ref r_15), .val (.int (p1 &&& (3 : Int32))), .val (.int z8), .val u_21, .val u_24, .val u_27, .val u_30, .val (.int z13), .val (.int z14), .val (.int z15), .val (.ref b_52), .unset] [(.int p4), (.ref b_52), u_30, u_27, u_21, u_24, (.ref b_58), (.ref b_58)])) rfl (by rw [hml]; rfl) (Steps.refl _) (a := b_58) (argsL := [u_24, u_21, u_27, u_30, (.ref b_52), (.int p4)]) (rest := [(.ref b_58)]) (lenOf pd_8 rfl) rfl (by show 2 * 0 + _ ≤ _; exact Nat.le_of_eq rfl) (hb hby at_211) (fun _ _ => ⟨rfl, e_58, (by decide : 15 + 0 ≤ _), (by decide : 37 + 0 ≤ _)⟩)
      dsimp only [Pt.U, Pt.locs, Pt.cells, Pt.slots] at X_67 l_67 y_67 z_67 st_67 hQ_67
      subst l_67 y_67 z_67
      obtain ⟨rfl, Nq_67, K_67q, q_67_0⟩ := hQ_67
      have N_67 := Fr.app N_57 Nq_67
      refine own_via (fun _ k => st_67.trans k) ?_
      show own_Go p e below _ (T_67.setTop (mkF m 214 #[.val (.int p1), .val (.int p2), .val (.int p3), .val (.int p4), .val (.ref b_1), .val (.ref b_4), .val (.ref r_15), .val (.int (p1 &&& (3 : Int32))), .val (.int z8), .val u_21, .val u_24, .val u_27, .val u_30, .val (.int z13), .val (.int z14), .val (.int z15), .val (.ref b_52), .unset] [(.ref b_58)]))
      refine own_via (fun _ => XS.astore X_67.here hx rfl (hb hby at_214) rfl rfl (l' := #[.val (.int p1), .val (.int p2), .val (.int p3), .val (.int p4), .val (.ref b_1), .val (.ref b_4), .val (.ref r_15), .val (.int (p1 &&& (3 : Int32))), .val (.int z8), .val u_21, .val u_24, .val u_27, .val u_30, .val (.int z13), .val (.int z14), .val (.int z15), .val (.ref b_52), .val (.ref b_58)]) rfl) ?_
      show own_Go p e below _ (T_67.setTop (mkF m 216 #[.val (.int p1), .val (.int p2), .val (.int p3), .val (.int p4), .val (.ref b_1), .val (.ref b_4), .val (.ref r_15), .val (.int (p1 &&& (3 : Int32))), .val (.int z8), .val u_21, .val u_24, .val u_27, .val u_30, .val (.int z13), .val (.int z14), .val (.int z15), .val (.ref b_52), .val (.ref b_58)] []))
      refine own_via (fun _ => XS.aload X_67.here hx rfl (hb hby at_216) rfl rfl) ?_
      show own_Go p e below _ (T_67.setTop (mkF m 218 #[.val (.int p1), .val (.int p2), .val (.int p3), .val (.int p4), .val (.ref b_1), .val (.ref b_4), .val (.ref r_15), .val (.int (p1 &&& (3 : Int32))), .val (.int z8), .val u_21, .val u_24, .val u_27, .val u_30, .val (.int z13), .val (.int z14), .val (.int z15), .val (.ref b_52), .val (.ref b_58)] [(.ref b_58)]))
      have K_68 : Keep h0 T_67.heap [] := Keep.trans (ws := []) K_66 K_67q (allS (Or.inr (Nat.le_trans K_65.1 (Nat.le_of_eq g_58.symm))) all0)
      have K_70 : Keep h_58 T_67.heap [b_58] := Keep.trans (ws := [b_58]) (own_keep_mono (Keep.refl h_58 []) (by simp)) K_67q (allS (Or.inl (List.mem_of_getElem? (i := 0) rfl)) all0)
      obtain ⟨cq_69, kq_69, q_69a, q_69b, q_69c⟩ := isOf hZ_29 rfl (A_58.keep K_70)
      obtain ⟨_, _, ⟨T_69, L_69, k_69, n_69⟩, -, X_69, ⟨Lc_69, hQ_69, l_69, y_69, z_69⟩, st_69⟩ := X_67.virtualBack hx (y := (⟨"com/example/jobwright/jobwright/JobChain$Node", "isEnd", "()Z"⟩ : MethodName)) (z := (⟨"com/example/jobwright/jobwright/JobChain$Node", "isEnd", "()Z"⟩ : MethodName)) ho_29 (mvT hZ_29 (own_w hw 72 rfl)) (mvT hZ_29 (own_w hw 73 rfl)) (notFace_of_selects (args := #[]) (mvT hZ_29 (own_w hw 75 rfl))) (mvT hZ_29 (own_w hw 75 rfl)) (mvT hZ_29 (own_w hw 74 rfl)) (by decide) (backOf (W := 0) (rmisEnd l Z a0 hw [] b_58 u_21 T_67.heap n0 (Nat.le_trans Z0 K_68.1) q_67_0 q_20_0) hZ_29 (own_w hw 76 rfl) (own_w hw 50 rfl) (by decide) (by decide)) q_69a q_69c (g := (mkF m 218 #[.val (.int p1), .val (.int p2), .val (.int p3), .val (.int p4), .val (.ref b_1), .val (.ref b_4), .val (.ref r_15), .val (.int (p1 &&& (3 : Int32))), .val (.int z8), .val u_21, .val u_24, .val u_27, .val u_30, .val (.int z13), .val (.int z14), .val (.int z15), .val (.ref b_52), .val (.ref b_58)] [(.ref b_58)])) rfl (by rw [hml]; rfl) (Steps.refl _) (argsL := []) (rest := []) (lenOf pd_9 rfl) rfl (by show 2 * 0 + _ ≤ _; exact Nat.le_of_eq rfl) (hb hby at_218) (fun _ _ => ⟨rfl, rfl, (by decide : 15 + 0 ≤ _), (by decide : 37 + 0 ≤ _)⟩)
      dsimp only [Pt.U, Pt.locs, Pt.cells, Pt.slots] at X_69 l_69 y_69 z_69 st_69 hQ_69
      subst l_69 y_69 z_69
      obtain ⟨i_71, rfl, Nq_69, K_69q, q_69_0⟩ := hQ_69
      have N_69 := Fr.app N_67 Nq_69
      refine own_via (fun _ k => st_69.trans k) ?_
      show own_Go p e below _ (T_69.setTop (mkF m 221 #[.val (.int p1), .val (.int p2), .val (.int p3), .val (.int p4), .val (.ref b_1), .val (.ref b_4), .val (.ref r_15), .val (.int (p1 &&& (3 : Int32))), .val (.int z8), .val u_21, .val u_24, .val u_27, .val u_30, .val (.int z13), .val (.int z14), .val (.int z15), .val (.ref b_52), .val (.ref b_58)] [(.int i_71)]))
      refine own_via (fun _ => XS.iload X_69.here hx rfl (hb hby at_221) rfl) ?_
      show own_Go p e below _ (T_69.setTop (mkF m 223 #[.val (.int p1), .val (.int p2), .val (.int p3), .val (.int p4), .val (.ref b_1), .val (.ref b_4), .val (.ref r_15), .val (.int (p1 &&& (3 : Int32))), .val (.int z8), .val u_21, .val u_24, .val u_27, .val u_30, .val (.int z13), .val (.int z14), .val (.int z15), .val (.ref b_52), .val (.ref b_58)] [(.int z8), (.int i_71)]))
      refine own_via (fun _ => XS.icmpNo X_69.here hx rfl (hb hby at_223) rfl (teq (own_fin q_20_1 ez8 q_69_0 : i_71 = z8)).2) ?_
      show own_Go p e below _ (T_69.setTop (mkF m 226 #[.val (.int p1), .val (.int p2), .val (.int p3), .val (.int p4), .val (.ref b_1), .val (.ref b_4), .val (.ref r_15), .val (.int (p1 &&& (3 : Int32))), .val (.int z8), .val u_21, .val u_24, .val u_27, .val u_30, .val (.int z13), .val (.int z14), .val (.int z15), .val (.ref b_52), .val (.ref b_58)] []))
      refine own_via (fun _ => XS.iconst X_69.here hx rfl (hb hby at_226)) ?_
      show own_Go p e below _ (T_69.setTop (mkF m 227 #[.val (.int p1), .val (.int p2), .val (.int p3), .val (.int p4), .val (.ref b_1), .val (.ref b_4), .val (.ref r_15), .val (.int (p1 &&& (3 : Int32))), .val (.int z8), .val u_21, .val u_24, .val u_27, .val u_30, .val (.int z13), .val (.int z14), .val (.int z15), .val (.ref b_52), .val (.ref b_58)] [(.int (1 : Int32))]))
      refine own_via (fun _ => XS.goto X_69.here hx rfl (pc0 := 227) (pc' := 231) rfl (hb hby at_227) (by decide) (by decide)) ?_
      show own_Go p e below _ (T_69.setTop (mkF m 231 #[.val (.int p1), .val (.int p2), .val (.int p3), .val (.int p4), .val (.ref b_1), .val (.ref b_4), .val (.ref r_15), .val (.int (p1 &&& (3 : Int32))), .val (.int z8), .val u_21, .val u_24, .val u_27, .val u_30, .val (.int z13), .val (.int z14), .val (.int z15), .val (.ref b_52), .val (.ref b_58)] [(.int (1 : Int32))]))
      have K_72 : Keep h0 T_69.heap [] := Keep.trans (ws := []) K_68 K_69q all0
      have K_73 : Keep T_29.heap h_52 [] := (Keep.refl T_29.heap []).ext E_52
      have K_74 : Keep T_29.heap T_57.heap [] := Keep.trans (ws := []) K_73 K_57q (allS (Or.inr (Nat.le_of_eq g_52.symm)) all0)
      have K_75 : Keep T_29.heap h_58 [] := K_74.ext E_58
      have K_76 : Keep T_29.heap T_67.heap [] := Keep.trans (ws := []) K_75 K_67q (allS (Or.inr (Nat.le_trans K_74.1 (Nat.le_of_eq g_58.symm))) all0)
      have K_77 : Keep T_29.heap T_69.heap [] := Keep.trans (ws := []) K_76 K_69q all0
      exact own_retvW X_69 hS_29 (Nat.le_trans (Nat.le_refl _) K_77.1) Bd.notSynchronized hx Bd.returns rfl (Or.inl ⟨rfl, (by simp), _, rfl⟩) (hb hby at_231) (by decide) (by decide) ⟨rfl, N_69, K_72⟩
    · refine own_via (fun _ => XS.ifNo X_52.here hx rfl (hb hby at_180) rfl ((if0 _ _).trans (feq (h14 : ¬ (z14 = (0 : Int32)))).1)) ?_
      show own_Go p e below _ (T_52.setTop (mkF m 183 #[.val (.int p1), .val (.int p2), .val (.int p3), .val (.int p4), .val (.ref b_1), .val (.ref b_4), .val (.ref r_15), .val (.int (p1 &&& (3 : Int32))), .val (.int z8), .val u_21, .val u_24, .val u_27, .val u_30, .val (.int z13), .val (.int z14), .val (.int z15), .val .null, .unset] [(.ref b_52), (.ref b_52)]))
      refine own_via (fun _ => XS.aload X_52.here hx rfl (hb hby at_183) rfl rfl) ?_
      show own_Go p e below _ (T_52.setTop (mkF m 185 #[.val (.int p1), .val (.int p2), .val (.int p3), .val (.int p4), .val (.ref b_1), .val (.ref b_4), .val (.ref r_15), .val (.int (p1 &&& (3 : Int32))), .val (.int z8), .val u_21, .val u_24, .val u_27, .val u_30, .val (.int z13), .val (.int z14), .val (.int z15), .val .null, .unset] [(.ref b_4), (.ref b_52), (.ref b_52)]))
      refine own_via (fun _ => XS.goto X_52.here hx rfl (pc0 := 185) (pc' := 189) rfl (hb hby at_185) (by decide) (by decide)) ?_
      show own_Go p e below _ (T_52.setTop (mkF m 189 #[.val (.int p1), .val (.int p2), .val (.int p3), .val (.int p4), .val (.ref b_1), .val (.ref b_4), .val (.ref r_15), .val (.int (p1 &&& (3 : Int32))), .val (.int z8), .val u_21, .val u_24, .val u_27, .val u_30, .val (.int z13), .val (.int z14), .val (.int z15), .val .null, .unset] [(.ref b_4), (.ref b_52), (.ref b_52)]))
      refine own_via (fun _ => XS.iload X_52.here hx rfl (hb hby at_189) rfl) ?_
      show own_Go p e below _ (T_52.setTop (mkF m 191 #[.val (.int p1), .val (.int p2), .val (.int p3), .val (.int p4), .val (.ref b_1), .val (.ref b_4), .val (.ref r_15), .val (.int (p1 &&& (3 : Int32))), .val (.int z8), .val u_21, .val u_24, .val u_27, .val u_30, .val (.int z13), .val (.int z14), .val (.int z15), .val .null, .unset] [(.int z15), (.ref b_4), (.ref b_52), (.ref b_52)]))
      have K_78 : Keep h0 T_29.heap [] := Keep.trans (ws := []) K_28 K_29q all0
      have K_79 : Keep h0 h_52 [] := K_78.ext E_52
      obtain ⟨_, _, ⟨T_80, L_80, k_80, n_80⟩, -, X_80, ⟨Lc_80, hQ_80, l_80, y_80, z_80⟩, st_80⟩ := X_52.specialBack hx (y := (⟨"com/example/jobwright/jobwright/FileOrderSink", "<init>", "(Ljava/lang/String;Z)V"⟩ : MethodName)) rfl ho_29 (mvT hZ_29 (own_w hw 83 rfl)) (mvT hZ_29 (own_w hw 84 rfl)) (mvT hZ_29 (own_w hw 85 rfl)) (by decide) (backOf (W := 1) (rmsink l Z a0 hw [] b_52 (.ref b_4) z15 h_52 n0 (Nat.le_trans Z0 K_79.1) A_52 F_53 F_54 (Nat.le_trans Z0 (Nat.le_trans K_78.1 (Nat.le_of_eq g_52.symm))) rfl) hZ_29 (own_w hw 85 rfl) (own_w hw 82 rfl) (by decide) (by decide)) (g := (mkF m 191 #[.val (.int p1), .val (.int p2), .val (.int p3), .val (.int p4), .val (.ref b_1), .val (.ref b_4), .val (.ref r_15), .val (.int (p1 &&& (3 : Int32))), .val (.int z8), .val u_21, .val u_24, .val u_27, .val u_30, .val (.int z13), .val (.int z14), .val (.int z15), .val .null, .unset] [(.int z15), (.ref b_4), (.ref b_52), (.ref b_52)])) rfl (by rw [hml]; rfl) (Steps.refl _) (a := b_52) (argsL := [(.ref b_4), (.int z15)]) (rest := [(.ref b_52)]) (lenOf pd_7 rfl) rfl (by show 2 * 0 + _ ≤ _; exact Nat.le_of_eq rfl) (hb hby at_191) (fun _ _ => ⟨rfl, e_52, (by decide : 14 + 0 ≤ _), (by decide : 31 + 0 ≤ _)⟩)
      dsimp only [Pt.U, Pt.locs, Pt.cells, Pt.slots] at X_80 l_80 y_80 z_80 st_80 hQ_80
      subst l_80 y_80 z_80
      obtain ⟨rfl, Nq_80, K_80q⟩ := hQ_80
      have N_80 := Fr.app N_29 Nq_80
      refine own_via (fun _ k => st_80.trans k) ?_
      show own_Go p e below _ (T_80.setTop (mkF m 194 #[.val (.int p1), .val (.int p2), .val (.int p3), .val (.int p4), .val (.ref b_1), .val (.ref b_4), .val (.ref r_15), .val (.int (p1 &&& (3 : Int32))), .val (.int z8), .val u_21, .val u_24, .val u_27, .val u_30, .val (.int z13), .val (.int z14), .val (.int z15), .val .null, .unset] [(.ref b_52)]))
      refine own_via (fun _ => XS.astore X_80.here hx rfl (hb hby at_194) rfl rfl (l' := #[.val (.int p1), .val (.int p2), .val (.int p3), .val (.int p4), .val (.ref b_1), .val (.ref b_4), .val (.ref r_15), .val (.int (p1 &&& (3 : Int32))), .val (.int z8), .val u_21, .val u_24, .val u_27, .val u_30, .val (.int z13), .val (.int z14), .val (.int z15), .val (.ref b_52), .unset]) rfl) ?_
      show own_Go p e below _ (T_80.setTop (mkF m 196 #[.val (.int p1), .val (.int p2), .val (.int p3), .val (.int p4), .val (.ref b_1), .val (.ref b_4), .val (.ref r_15), .val (.int (p1 &&& (3 : Int32))), .val (.int z8), .val u_21, .val u_24, .val u_27, .val u_30, .val (.int z13), .val (.int z14), .val (.int z15), .val (.ref b_52), .unset] []))
      obtain ⟨T_81, h_81, X_81, e_81, E_81, A_81, D_81, -, st_81⟩ := newO X_80 hx hZ_29 ho_29 (own_w hw 48 rfl) (own_w hw 49 rfl) (own_w hw 50 rfl) rfl (g := (mkF m 196 #[.val (.int p1), .val (.int p2), .val (.int p3), .val (.int p4), .val (.ref b_1), .val (.ref b_4), .val (.ref r_15), .val (.int (p1 &&& (3 : Int32))), .val (.int z8), .val u_21, .val u_24, .val u_27, .val u_30, .val (.int z13), .val (.int z14), .val (.int z15), .val (.ref b_52), .unset] [])) rfl (hb hby at_196) (by decide) (by decide)
      obtain ⟨b_81, g_81⟩ : ∃ z, z = T_80.heap.size := ⟨_, rfl⟩
      rw [← g_81] at A_81 D_81 st_81
      have F_82 : Fld Z h_81 b_81 "com/example/jobwright/jobwright/JobChain$Node" "state" "Ljava/lang/String;" .null := D_81 (Or.inr (own_w hw 61 rfl)) (ty := (.object "java/lang/String")) (by decide)
      have F_83 : Fld Z h_81 b_81 "com/example/jobwright/jobwright/JobChain$Node" "job" "Ljava/lang/String;" .null := D_81 (Or.inr (own_w hw 63 rfl)) (ty := (.object "java/lang/String")) (by decide)
      have F_84 : Fld Z h_81 b_81 "com/example/jobwright/jobwright/JobChain$Node" "nextState" "Ljava/lang/String;" .null := D_81 (Or.inr (own_w hw 65 rfl)) (ty := (.object "java/lang/String")) (by decide)
      have F_85 : Fld Z h_81 b_81 "com/example/jobwright/jobwright/JobChain$Node" "errorState" "Ljava/lang/String;" .null := D_81 (Or.inr (own_w hw 67 rfl)) (ty := (.object "java/lang/String")) (by decide)
      have F_86 : Fld Z h_81 b_81 "com/example/jobwright/jobwright/JobChain$Node" "sink" "Lcom/example/jobwright/jobwright/FileOrderSink;" .null := D_81 (Or.inr (own_w hw 69 rfl)) (ty := (.object "com/example/jobwright/jobwright/FileOrderSink")) (by decide)
      have F_87 : Fld Z h_81 b_81 "com/example/jobwright/jobwright/JobChain$Node" "line" "I" (.int (0 : Int32)) := D_81 (Or.inr (own_w hw 71 rfl)) (ty := .int) (by decide)
      refine own_via st_81 ?_
      show own_Go p e below _ (T_81.setTop (mkF m 199 #[.val (.int p1), .val (.int p2), .val (.int p3), .val (.int p4), .val (.ref b_1), .val (.ref b_4), .val (.ref r_15), .val (.int (p1 &&& (3 : Int32))), .val (.int z8), .val u_21, .val u_24, .val u_27, .val u_30, .val (.int z13), .val (.int z14), .val (.int z15), .val (.ref b_52), .unset] [(.ref b_81)]))
      refine own_via (fun _ => XS.dup X_81.here hx rfl (hb hby at_199) rfl rfl) ?_
      show own_Go p e below _ (T_81.setTop (mkF m 200 #[.val (.int p1), .val (.int p2), .val (.int p3), .val (.int p4), .val (.ref b_1), .val (.ref b_4), .val (.ref r_15), .val (.int (p1 &&& (3 : Int32))), .val (.int z8), .val u_21, .val u_24, .val u_27, .val u_30, .val (.int z13), .val (.int z14), .val (.int z15), .val (.ref b_52), .unset] [(.ref b_81), (.ref b_81)]))
      refine own_via (fun _ => XS.aload X_81.here hx rfl (hb hby at_200) rfl q_23_0) ?_
      show own_Go p e below _ (T_81.setTop (mkF m 202 #[.val (.int p1), .val (.int p2), .val (.int p3), .val (.int p4), .val (.ref b_1), .val (.ref b_4), .val (.ref r_15), .val (.int (p1 &&& (3 : Int32))), .val (.int z8), .val u_21, .val u_24, .val u_27, .val u_30, .val (.int z13), .val (.int z14), .val (.int z15), .val (.ref b_52), .unset] [u_24, (.ref b_81), (.ref b_81)]))
      refine own_via (fun _ => XS.aload X_81.here hx rfl (hb hby at_202) rfl q_20_0) ?_
      show own_Go p e below _ (T_81.setTop (mkF m 204 #[.val (.int p1), .val (.int p2), .val (.int p3), .val (.int p4), .val (.ref b_1), .val (.ref b_4), .val (.ref r_15), .val (.int (p1 &&& (3 : Int32))), .val (.int z8), .val u_21, .val u_24, .val u_27, .val u_30, .val (.int z13), .val (.int z14), .val (.int z15), .val (.ref b_52), .unset] [u_21, u_24, (.ref b_81), (.ref b_81)]))
      refine own_via (fun _ => XS.aload X_81.here hx rfl (hb hby at_204) rfl q_26_0) ?_
      show own_Go p e below _ (T_81.setTop (mkF m 206 #[.val (.int p1), .val (.int p2), .val (.int p3), .val (.int p4), .val (.ref b_1), .val (.ref b_4), .val (.ref r_15), .val (.int (p1 &&& (3 : Int32))), .val (.int z8), .val u_21, .val u_24, .val u_27, .val u_30, .val (.int z13), .val (.int z14), .val (.int z15), .val (.ref b_52), .unset] [u_27, u_21, u_24, (.ref b_81), (.ref b_81)]))
      refine own_via (fun _ => XS.aload X_81.here hx rfl (hb hby at_206) rfl q_29_0) ?_
      show own_Go p e below _ (T_81.setTop (mkF m 208 #[.val (.int p1), .val (.int p2), .val (.int p3), .val (.int p4), .val (.ref b_1), .val (.ref b_4), .val (.ref r_15), .val (.int (p1 &&& (3 : Int32))), .val (.int z8), .val u_21, .val u_24, .val u_27, .val u_30, .val (.int z13), .val (.int z14), .val (.int z15), .val (.ref b_52), .unset] [u_30, u_27, u_21, u_24, (.ref b_81), (.ref b_81)]))
      refine own_via (fun _ => XS.aload X_81.here hx rfl (hb hby at_208) rfl rfl) ?_
      show own_Go p e below _ (T_81.setTop (mkF m 210 #[.val (.int p1), .val (.int p2), .val (.int p3), .val (.int p4), .val (.ref b_1), .val (.ref b_4), .val (.ref r_15), .val (.int (p1 &&& (3 : Int32))), .val (.int z8), .val u_21, .val u_24, .val u_27, .val u_30, .val (.int z13), .val (.int z14), .val (.int z15), .val (.ref b_52), .unset] [(.ref b_52), u_30, u_27, u_21, u_24, (.ref b_81), (.ref b_81)]))
      refine own_via (fun _ => XS.iloadN X_81.here hx rfl (hb hby at_210) rfl) ?_
      show own_Go p e below _ (T_81.setTop (mkF m 211 #[.val (.int p1), .val (.int p2), .val (.int p3), .val (.int p4), .val (.ref b_1), .val (.ref b_4), .val (.ref r_15), .val (.int (p1 &&& (3 : Int32))), .val (.int z8), .val u_21, .val u_24, .val u_27, .val u_30, .val (.int z13), .val (.int z14), .val (.int z15), .val (.ref b_52), .unset] [(.int p4), (.ref b_52), u_30, u_27, u_21, u_24, (.ref b_81), (.ref b_81)]))
      have K_88 : Keep h0 T_80.heap [] := Keep.trans (ws := []) K_79 K_80q (allS (Or.inr (Nat.le_trans K_78.1 (Nat.le_of_eq g_52.symm))) all0)
      have K_89 : Keep h0 h_81 [] := K_88.ext E_81
      obtain ⟨_, _, ⟨T_90, L_90, k_90, n_90⟩, -, X_90, ⟨Lc_90, hQ_90, l_90, y_90, z_90⟩, st_90⟩ := X_81.specialBack hx (y := (⟨"com/example/jobwright/jobwright/JobChain$Node", "<init>", "(Ljava/lang/String;Ljava/lang/String;Ljava/lang/String;Ljava/lang/String;Lcom/example/jobwright/jobwright/FileOrderSink;I)V"⟩ : MethodName)) rfl ho_29 (mvT hZ_29 (own_w hw 51 rfl)) (mvT hZ_29 (own_w hw 52 rfl)) (mvT hZ_29 (own_w hw 53 rfl)) (by decide) (backOf (W := 1) (rmnode l Z a0 hw [] b_81 u_24 u_21 u_27 u_30 (.ref b_52) p4 h_81 n0 (Nat.le_trans Z0 K_89.1) A_81 F_82 F_83 F_84 F_85 F_86 F_87 (Nat.le_trans Z0 (Nat.le_trans K_88.1 (Nat.le_of_eq g_81.symm))) q_23_0 q_20_0 q_26_0 q_29_0 rfl) hZ_29 (own_w hw 53 rfl) (own_w hw 50 rfl) (by decide) (by decide)) (g := (mkF m 211 #[.val (.int p1), .val (.int p2), .val (.int p3), .val (.int p4), .val (.ref b_1), .val (.ref b_4), .val (.ref r_15), .val (.int (p1 &&& (3 : Int32))), .val (.int z8), .val u_21, .val u_24, .val u_27, .val u_30, .val (.int z13), .val (.int z14), .val (.int z15), .val (.ref b_52), .unset] [(.int p4), (.ref b_52), u_30, u_27, u_21, u_24, (.ref b_81), (.ref b_81)])) rfl (by rw [hml]; rfl) (Steps.refl _) (a := b_81) (argsL := [u_24, u_21, u_27, u_30, (.ref b_52), (.int p4)]) (rest := [(.ref b_81)]) (lenOf pd_8 rfl) rfl (by show 2 * 0 + _ ≤ _; exact Nat.le_of_eq rfl) (hb hby at_211) (fun _ _ => ⟨rfl, e_81, (by decide : 15 + 0 ≤ _), (by decide : 37 + 0 ≤ _)⟩)
      dsimp only [Pt.U, Pt.locs, Pt.cells, Pt.slots] at X_90 l_90 y_90 z_90 st_90 hQ_90
      subst l_90 y_90 z_90
      obtain ⟨rfl, Nq_90, K_90q, q_90_0⟩ := hQ_90
      have N_90 := Fr.app N_80 Nq_90
      refine own_via (fun _ k => st_90.trans k) ?_
      show own_Go p e below _ (T_90.setTop (mkF m 214 #[.val (.int p1), .val (.int p2), .val (.int p3), .val (.int p4), .val (.ref b_1), .val (.ref b_4), .val (.ref r_15), .val (.int (p1 &&& (3 : Int32))), .val (.int z8), .val u_21, .val u_24, .val u_27, .val u_30, .val (.int z13), .val (.int z14), .val (.int z15), .val (.ref b_52), .unset] [(.ref b_81)]))
      refine own_via (fun _ => XS.astore X_90.here hx rfl (hb hby at_214) rfl rfl (l' := #[.val (.int p1), .val (.int p2), .val (.int p3), .val (.int p4), .val (.ref b_1), .val (.ref b_4), .val (.ref r_15), .val (.int (p1 &&& (3 : Int32))), .val (.int z8), .val u_21, .val u_24, .val u_27, .val u_30, .val (.int z13), .val (.int z14), .val (.int z15), .val (.ref b_52), .val (.ref b_81)]) rfl) ?_
      show own_Go p e below _ (T_90.setTop (mkF m 216 #[.val (.int p1), .val (.int p2), .val (.int p3), .val (.int p4), .val (.ref b_1), .val (.ref b_4), .val (.ref r_15), .val (.int (p1 &&& (3 : Int32))), .val (.int z8), .val u_21, .val u_24, .val u_27, .val u_30, .val (.int z13), .val (.int z14), .val (.int z15), .val (.ref b_52), .val (.ref b_81)] []))
      refine own_via (fun _ => XS.aload X_90.here hx rfl (hb hby at_216) rfl rfl) ?_
      show own_Go p e below _ (T_90.setTop (mkF m 218 #[.val (.int p1), .val (.int p2), .val (.int p3), .val (.int p4), .val (.ref b_1), .val (.ref b_4), .val (.ref r_15), .val (.int (p1 &&& (3 : Int32))), .val (.int z8), .val u_21, .val u_24, .val u_27, .val u_30, .val (.int z13), .val (.int z14), .val (.int z15), .val (.ref b_52), .val (.ref b_81)] [(.ref b_81)]))
      have K_91 : Keep h0 T_90.heap [] := Keep.trans (ws := []) K_89 K_90q (allS (Or.inr (Nat.le_trans K_88.1 (Nat.le_of_eq g_81.symm))) all0)
      have K_93 : Keep h_81 T_90.heap [b_81] := Keep.trans (ws := [b_81]) (own_keep_mono (Keep.refl h_81 []) (by simp)) K_90q (allS (Or.inl (List.mem_of_getElem? (i := 0) rfl)) all0)
      obtain ⟨cq_92, kq_92, q_92a, q_92b, q_92c⟩ := isOf hZ_29 rfl (A_81.keep K_93)
      obtain ⟨_, _, ⟨T_92, L_92, k_92, n_92⟩, -, X_92, ⟨Lc_92, hQ_92, l_92, y_92, z_92⟩, st_92⟩ := X_90.virtualBack hx (y := (⟨"com/example/jobwright/jobwright/JobChain$Node", "isEnd", "()Z"⟩ : MethodName)) (z := (⟨"com/example/jobwright/jobwright/JobChain$Node", "isEnd", "()Z"⟩ : MethodName)) ho_29 (mvT hZ_29 (own_w hw 72 rfl)) (mvT hZ_29 (own_w hw 73 rfl)) (notFace_of_selects (args := #[]) (mvT hZ_29 (own_w hw 75 rfl))) (mvT hZ_29 (own_w hw 75 rfl)) (mvT hZ_29 (own_w hw 74 rfl)) (by decide) (backOf (W := 0) (rmisEnd l Z a0 hw [] b_81 u_21 T_90.heap n0 (Nat.le_trans Z0 K_91.1) q_90_0 q_20_0) hZ_29 (own_w hw 76 rfl) (own_w hw 50 rfl) (by decide) (by decide)) q_92a q_92c (g := (mkF m 218 #[.val (.int p1), .val (.int p2), .val (.int p3), .val (.int p4), .val (.ref b_1), .val (.ref b_4), .val (.ref r_15), .val (.int (p1 &&& (3 : Int32))), .val (.int z8), .val u_21, .val u_24, .val u_27, .val u_30, .val (.int z13), .val (.int z14), .val (.int z15), .val (.ref b_52), .val (.ref b_81)] [(.ref b_81)])) rfl (by rw [hml]; rfl) (Steps.refl _) (argsL := []) (rest := []) (lenOf pd_9 rfl) rfl (by show 2 * 0 + _ ≤ _; exact Nat.le_of_eq rfl) (hb hby at_218) (fun _ _ => ⟨rfl, rfl, (by decide : 15 + 0 ≤ _), (by decide : 37 + 0 ≤ _)⟩)
      dsimp only [Pt.U, Pt.locs, Pt.cells, Pt.slots] at X_92 l_92 y_92 z_92 st_92 hQ_92
      subst l_92 y_92 z_92
      obtain ⟨i_94, rfl, Nq_92, K_92q, q_92_0⟩ := hQ_92
      have N_92 := Fr.app N_90 Nq_92
      refine own_via (fun _ k => st_92.trans k) ?_
      show own_Go p e below _ (T_92.setTop (mkF m 221 #[.val (.int p1), .val (.int p2), .val (.int p3), .val (.int p4), .val (.ref b_1), .val (.ref b_4), .val (.ref r_15), .val (.int (p1 &&& (3 : Int32))), .val (.int z8), .val u_21, .val u_24, .val u_27, .val u_30, .val (.int z13), .val (.int z14), .val (.int z15), .val (.ref b_52), .val (.ref b_81)] [(.int i_94)]))
      refine own_via (fun _ => XS.iload X_92.here hx rfl (hb hby at_221) rfl) ?_
      show own_Go p e below _ (T_92.setTop (mkF m 223 #[.val (.int p1), .val (.int p2), .val (.int p3), .val (.int p4), .val (.ref b_1), .val (.ref b_4), .val (.ref r_15), .val (.int (p1 &&& (3 : Int32))), .val (.int z8), .val u_21, .val u_24, .val u_27, .val u_30, .val (.int z13), .val (.int z14), .val (.int z15), .val (.ref b_52), .val (.ref b_81)] [(.int z8), (.int i_94)]))
      refine own_via (fun _ => XS.icmpNo X_92.here hx rfl (hb hby at_223) rfl (teq (own_fin q_20_1 ez8 q_92_0 : i_94 = z8)).2) ?_
      show own_Go p e below _ (T_92.setTop (mkF m 226 #[.val (.int p1), .val (.int p2), .val (.int p3), .val (.int p4), .val (.ref b_1), .val (.ref b_4), .val (.ref r_15), .val (.int (p1 &&& (3 : Int32))), .val (.int z8), .val u_21, .val u_24, .val u_27, .val u_30, .val (.int z13), .val (.int z14), .val (.int z15), .val (.ref b_52), .val (.ref b_81)] []))
      refine own_via (fun _ => XS.iconst X_92.here hx rfl (hb hby at_226)) ?_
      show own_Go p e below _ (T_92.setTop (mkF m 227 #[.val (.int p1), .val (.int p2), .val (.int p3), .val (.int p4), .val (.ref b_1), .val (.ref b_4), .val (.ref r_15), .val (.int (p1 &&& (3 : Int32))), .val (.int z8), .val u_21, .val u_24, .val u_27, .val u_30, .val (.int z13), .val (.int z14), .val (.int z15), .val (.ref b_52), .val (.ref b_81)] [(.int (1 : Int32))]))
      refine own_via (fun _ => XS.goto X_92.here hx rfl (pc0 := 227) (pc' := 231) rfl (hb hby at_227) (by decide) (by decide)) ?_
      show own_Go p e below _ (T_92.setTop (mkF m 231 #[.val (.int p1), .val (.int p2), .val (.int p3), .val (.int p4), .val (.ref b_1), .val (.ref b_4), .val (.ref r_15), .val (.int (p1 &&& (3 : Int32))), .val (.int z8), .val u_21, .val u_24, .val u_27, .val u_30, .val (.int z13), .val (.int z14), .val (.int z15), .val (.ref b_52), .val (.ref b_81)] [(.int (1 : Int32))]))
      have K_95 : Keep h0 T_92.heap [] := Keep.trans (ws := []) K_91 K_92q all0
      have K_96 : Keep T_29.heap h_52 [] := (Keep.refl T_29.heap []).ext E_52
      have K_97 : Keep T_29.heap T_80.heap [] := Keep.trans (ws := []) K_96 K_80q (allS (Or.inr (Nat.le_of_eq g_52.symm)) all0)
      have K_98 : Keep T_29.heap h_81 [] := K_97.ext E_81
      have K_99 : Keep T_29.heap T_90.heap [] := Keep.trans (ws := []) K_98 K_90q (allS (Or.inr (Nat.le_trans K_97.1 (Nat.le_of_eq g_81.symm))) all0)
      have K_100 : Keep T_29.heap T_92.heap [] := Keep.trans (ws := []) K_99 K_92q all0
      exact own_retvW X_92 hS_29 (Nat.le_trans (Nat.le_refl _) K_100.1) Bd.notSynchronized hx Bd.returns rfl (Or.inl ⟨rfl, (by simp), _, rfl⟩) (hb hby at_231) (by decide) (by decide) ⟨rfl, N_92, K_95⟩
set_option maxRecDepth 65536 in
set_option maxHeartbeats 40000000 in
theorem comes_1 {Post : Tables → Env → Array Value → State → Outcome → State → Prop} (hpost : ∀ tb e args s v u, (limb_1_1.after args s (.returned v) u = true ∧ limb_1_2.after args s (.returned v) u = true ∧ True) → FramedW s (.returned v) u (Jvm.fieldLocs frame_1_writes args s ++ Jvm.arrayLocs frame_1_arrays args s ++ Jvm.staticLocs frame_1_statics s) 24 1152 → Post tb e args s (.returned v) u) :
    ArmFor flags0 classFile x code maxLocals ret World_1 tables_1 room_1 Calls_1 rest_1 Pre_1 Post := by
  intro l hfl _ _ p e ha hc hk s m args below hf hA hF happ hP
  obtain ⟨hcalls, hrest, hpre⟩ := hP
  obtain ⟨-, -, -, hnamed, -, -, -, hat⟩ := (Spec.applies_iff hf).mp happ
  obtain ⟨hg, hn⟩ := and_e (Cond.before_iff.mp (show (Jvm.Cond.and given_1 narrow_1).before args s = true from hpre))
  obtain ⟨ga0, gb0⟩ := and_e hg
  obtain ⟨ga1, gb1⟩ := and_e gb0
  obtain ⟨ga2, gb2⟩ := and_e gb1
  obtain ⟨ga3, gb3⟩ := and_e gb2
  obtain ⟨w0, w1, w2, w3, rfl⟩ : ∃ w0 w1 w2 w3 : Value, args = #[w0, w1, w2, w3] := by
    have hs : args.size = 4 := by simpa [Cond.value, given_1] using ga0
    obtain ⟨L⟩ := args
    match L, hs with
    | [w0, w1, w2, w3], _ => exact ⟨w0, w1, w2, w3, rfl⟩
  have hw := fun d (hd : d ∈ tables_1) => atoms_spec (ws := Jvm.Cond.code x code maxLocals ret :: tables_1) hat d (List.mem_cons_of_mem _ hd)
  have hfit : Fit s := fun {y c} hc i hi => by
    obtain ⟨ha, rfl⟩ := Array.getElem?_eq_some_iff.mp hc
    have q := List.all_eq_true.mp ((Array.all_eq_true_iff_forall_mem.mp hF) _ (Array.getElem_mem ha)) i (List.mem_range.mpr hi)
    simpa [Array.getElem?_eq_getElem hi] using q
  obtain ⟨i0, ei0⟩ := is_v ga1
  obtain rfl : w0 = (.int i0) := Option.some.inj ei0
  obtain ⟨i1, ei1⟩ := is_v ga2
  obtain rfl : w1 = (.int i1) := Option.some.inj ei1
  obtain ⟨i2, ei2⟩ := is_v ga3
  obtain rfl : w2 = (.int i2) := Option.some.inj ei2
  obtain ⟨i3, ei3⟩ := is_v gb3
  obtain rfl : w3 = (.int i3) := Option.some.inj ei3
  obtain ⟨hsets, hown0⟩ := atoms_of _ (rest_1_c_eq ▸ (show rest_1_c.before _ s = true from hrest))
  obtain ⟨cs, tcs⟩ := is_v (Cond.before_iff.mp (hsets _ (List.mem_of_getElem? (i := 1) rfl)))
  have Scs := Sta.start tcs (Or.inl (hsets _ (List.mem_of_getElem? (i := 0) rfl)))
  have hcs : ¬ (cs = (0 : Int32)) := fun q => by
    subst q
    have h1 := not_v (Cond.before_iff.mp (hsets _ (List.mem_of_getElem? (i := 2) rfl)))
    rw [eq_i tcs (Term.int_eval (0)) rfl] at h1
    cases h1
  obtain ⟨n, o, h1, h2, h3, _, L, rfl, ⟨rfl, N, -⟩, hq⟩ := rm0 l s _ hw tables_1 i0 i1 i2 i3 cs s.heap s.heap.size (Nat.le_refl _) (Old.start s) Scs hcs p e ha hc hk s m _ below hf ((Spec.applies_iff_loose hf).mp happ).1 ⟨rfl, State.Warmed39.refl s, rfl, trivial⟩ trivial
  refine ⟨n, _, h1, h2, h3, hpost _ _ _ _ _ _ ⟨Cond.after_iff.mpr rfl, Cond.after_iff.mpr (eq_i res_at (Term.int_eval (1)) rfl), trivial⟩ ⟨hq.1, hq.2.1, hq.2.2.1, (hq.2.2.2.sift fun y hy => Or.inr (N y hy)).mono (by decide) (by decide)⟩⟩
theorem main_1_1 : Claimed_1_1 := comes_1 fun _ _ _ _ _ _ h hF => ⟨h.1, hF⟩
theorem main_1_2 : Claimed_1_2 := comes_1 fun _ _ _ _ _ _ h hF => ⟨h.2.1, hF⟩
end Jvm.Pilot.@@N@@
namespace Jvm.Pilot.@@N@@
open Jvm Jvm.ClassFile Sem Op Lib Jvm.Free Jvm.Stand Jvm.Pilot.@@N@@.Jvm.D
/-! MADE BY PROGRAM (witnessworld.py) out of the Statement's table words and the real class files: 20 classes; the members and pool entries that the words name. The judged class is class 1, her method 2. -/
namespace start1
open Jvm.ClassFile
def u (s : String) : CpInfo := .utf8 (stringToUtf16 s)
/-- a pool by its gaps: so many unusable entries, then the entry; so many at the end -/
def gap : Nat → List CpInfo → List CpInfo
  | 0, r => r
  | n + 1, r => .unusable :: gap n r
def poolList (es : List (Nat × CpInfo)) (last : Nat) : List CpInfo := es.foldr (fun e r => gap e.1 (e.2 :: r)) (gap last [])
def pool (es : List (Nat × CpInfo)) (last : Nat) : Array CpInfo := ⟨poolList es last⟩
def fileOf (pool : Array CpInfo) (this : Nat) (attrs : Array Attribute := #[]) (ms : Array MethodInfo := #[]) (fl : Nat := 33) (sup : Nat := 0) (ifs : Array Nat := #[]) (fds : Array FieldInfo := #[]) : ClassFile where
  minorVersion := 0
  majorVersion := 65
  constantPool := pool
  accessFlags := fl
  thisClass := this
  superClass := sup
  interfaces := ifs
  fields := fds
  methods := ms
  attributes := attrs
def plain (name : String) (sup : Option ClassId) : Class where
  name := name
  kind := .ordinary
  loader := none
  accessFlags := 33
  super := sup
  interfaces := #[]
  cf := none
  fields := #[]
  methods := #[]
  instanceTypes := #[]
  staticTypes := #[]
  resolved := #[]
  callSites := []
  init := .initialized
  statics := none
  mirror := none

def pool0 : Array CpInfo := pool [(5, u "<init>"), (0, u "()V"), (1, .class_ 10), (1, u "java/lang/Object")] 113

def k0c0 : Code := { maxStack := 0, maxLocals := 1, code := object_method_1_code, exceptionTable := #[], attributes := #[] }
def k0m0 : Method := { name := "<init>", desc := "()V", sig := { parameters := [], returnType := none }, accessFlags := 1, code := some k0c0 }
/-- java/lang/Object -/
def k0 : Class := { plain "java/lang/Object" none with
  accessFlags := 33
  interfaces := #[]
  cf := some (fileOf pool0 8 #[] #[{ accessFlags := 1, nameIndex := 5, descriptorIndex := 6, attributes := #[] }] 33 0 #[] #[])
  fields := #[]
  methods := #[k0m0]
  instanceTypes := #[]
  staticTypes := #[]
  resolved := Array.replicate 124 none
  statics := none }

def pool1 : Array CpInfo := pool [(2, .class_ 4), (1, u "java/lang/Object"), (0, u "<init>"), (0, u "()V"), (0, .string 8), (0, u ""), (0, .class_ 10), (0, u "java/lang/String"), (0, .methodref 9 12), (0, .nameAndType 5 13), (0, u "([C)V"), (0, .methodref 9 15), (0, .nameAndType 16 17), (0, u "valueOf"), (0, u "(C)Ljava/lang/String;"), (0, .methodref 19 20), (0, .class_ 21), (0, .nameAndType 22 23), (0, u "com/example/jobwright/jobwright/NodeIsEndPinLaw"), (0, u "pick"), (0, u "(ILjava/lang/String;Ljava/lang/String;)Ljava/lang/String;"), (0, .class_ 25), (0, u "com/example/jobwright/jobwright/FileOrderSink"), (0, .methodref 24 27), (0, .nameAndType 5 28), (0, u "(Ljava/lang/String;Z)V"), (0, .class_ 30), (0, u "com/example/jobwright/jobwright/JobChain$Node"), (0, .methodref 29 32), (0, .nameAndType 5 33), (0, u "(Ljava/lang/String;Ljava/lang/String;Ljava/lang/String;Ljava/lang/String;Lcom/example/jobwright/jobwright/FileOrderSink;I)V"), (0, .methodref 29 35), (0, .nameAndType 36 37), (0, u "isEnd"), (0, u "()Z"), (3, u "law"), (0, u "(IIII)Z")] 8

def k1m0 : Method := { name := "<init>", desc := "()V", sig := { parameters := [], returnType := none }, accessFlags := 1, code := none }
def k1c1 : Code := { maxStack := 2, maxLocals := 3, code := method_2_code, exceptionTable := #[], attributes := #[] }
def k1m1 : Method := { name := "pick", desc := "(ILjava/lang/String;Ljava/lang/String;)Ljava/lang/String;", sig := { parameters := [.int, (.object "java/lang/String"), (.object "java/lang/String")], returnType := some (.object "java/lang/String") }, accessFlags := 10, code := some k1c1 }
def k1c2 : Code := { maxStack := 8, maxLocals := 18, code := code, exceptionTable := #[], attributes := #[] }
def k1m2 : Method := { name := "law", desc := "(IIII)Z", sig := { parameters := [.int, .int, .int, .int], returnType := some .boolean }, accessFlags := 9, code := some k1c2 }
/-- com/example/jobwright/jobwright/NodeIsEndPinLaw -/
def k1 : Class := { plain "com/example/jobwright/jobwright/NodeIsEndPinLaw" (some 0) with
  accessFlags := 49
  interfaces := #[]
  cf := some (fileOf pool1 19 #[] #[{ accessFlags := 1, nameIndex := 5, descriptorIndex := 6, attributes := #[] }, { accessFlags := 10, nameIndex := 22, descriptorIndex := 23, attributes := #[] }, { accessFlags := 9, nameIndex := 41, descriptorIndex := 42, attributes := #[] }] 49 2 #[] #[])
  fields := #[]
  methods := #[k1m0, k1m1, k1m2]
  instanceTypes := #[]
  staticTypes := #[]
  resolved := Array.replicate 51 none
  statics := none }

def pool2 : Array CpInfo := pool [(1, .class_ 2), (0, u "java/io/Serializable"), (0, .class_ 4), (0, u "java/lang/Object")] 2

/-- java/io/Serializable -/
def k2 : Class := { plain "java/io/Serializable" (some 0) with
  accessFlags := 1537
  interfaces := #[]
  cf := some (fileOf pool2 1 #[] #[] 1537 3 #[] #[])
  fields := #[]
  methods := #[]
  instanceTypes := #[]
  staticTypes := #[]
  resolved := Array.replicate 7 none
  statics := none }

def pool3 : Array CpInfo := pool [(1, .class_ 2), (0, u "java/lang/Comparable"), (0, .class_ 4), (0, u "java/lang/Object")] 7

/-- java/lang/Comparable -/
def k3 : Class := { plain "java/lang/Comparable" (some 0) with
  accessFlags := 1537
  interfaces := #[]
  cf := some (fileOf pool3 1 #[] #[] 1537 3 #[] #[])
  fields := #[]
  methods := #[]
  instanceTypes := #[]
  staticTypes := #[]
  resolved := Array.replicate 12 none
  statics := none }

def pool4 : Array CpInfo := pool [(2, .class_ 4), (1, u "java/lang/CharSequence"), (42, .class_ 48), (0, u "java/lang/CharSequence$1CodePointIterator"), (10, .class_ 60), (0, u "java/lang/CharSequence$1CharIterator"), (5, .class_ 67), (0, u "java/lang/Object")] 63

/-- java/lang/CharSequence -/
def k4 : Class := { plain "java/lang/CharSequence" (some 0) with
  accessFlags := 1537
  interfaces := #[]
  cf := some (fileOf pool4 2 #[.nestMembers #[47, 59]] #[] 1537 66 #[] #[])
  fields := #[]
  methods := #[]
  instanceTypes := #[]
  staticTypes := #[]
  resolved := Array.replicate 131 none
  statics := none }

def pool5 : Array CpInfo := pool [(1, .class_ 2), (0, u "java/lang/constant/Constable"), (0, .class_ 4), (0, u "java/lang/Object")] 6

/-- java/lang/constant/Constable -/
def k5 : Class := { plain "java/lang/constant/Constable" (some 0) with
  accessFlags := 1537
  interfaces := #[]
  cf := some (fileOf pool5 1 #[] #[] 1537 3 #[] #[])
  fields := #[]
  methods := #[]
  instanceTypes := #[]
  staticTypes := #[]
  resolved := Array.replicate 11 none
  statics := none }

def pool6 : Array CpInfo := pool [(1, .class_ 2), (0, u "java/lang/constant/ConstantDesc"), (0, .class_ 4), (0, u "java/lang/Object")] 32

/-- java/lang/constant/ConstantDesc -/
def k6 : Class := { plain "java/lang/constant/ConstantDesc" (some 0) with
  accessFlags := 1537
  interfaces := #[]
  cf := some (fileOf pool6 1 #[] #[] 1537 3 #[] #[])
  fields := #[]
  methods := #[]
  instanceTypes := #[]
  staticTypes := #[]
  resolved := Array.replicate 37 none
  statics := none }

def pool7 : Array CpInfo := pool [(1, .methodref 2 3), (0, .class_ 4), (0, .nameAndType 5 6), (0, u "java/lang/Object"), (0, u "<init>"), (0, u "()V"), (2, .fieldref 10 11), (0, .class_ 12), (0, .nameAndType 13 14), (0, u "java/lang/String"), (0, u "value"), (0, u "[B"), (0, .fieldref 10 16), (0, .nameAndType 17 18), (0, u "coder"), (0, u "B"), (2, u "hash"), (0, u "I"), (2, u "hashIsZero"), (0, u "Z"), (0, .methodref 10 28), (0, .nameAndType 5 29), (0, u "([CIILjava/lang/Void;)V"), (8, .fieldref 10 39), (0, .nameAndType 40 26), (0, u "COMPACT_STRINGS"), (1, .class_ 44), (1, u "java/lang/StringUTF16"), (0, u "compress"), (1, .methodref 42 48), (0, .nameAndType 49 50), (0, u "coderFromArrayLen"), (0, u "([BI)B"), (2, u "toBytes"), (53, .class_ 109), (1, u "java/lang/StringLatin1"), (67, .methodref 42 178), (0, .nameAndType 45 179), (0, u "([CII)[B"), (29, .methodref 10 210), (0, .nameAndType 5 211), (0, u "([BB)V"), (157, u "(C)Z"), (205, .class_ 576), (0, u "java/lang/CharSequence"), (22, u "CASE_INSENSITIVE_ORDER"), (0, u "Ljava/util/Comparator;"), (181, u "valueOf"), (0, u "(C)Ljava/lang/String;"), (226, u "([C)V"), (4, .methodref 107 1016), (0, .nameAndType 1017 369), (0, u "canEncode"), (0, .methodref 107 1019), (0, .nameAndType 53 1020), (0, u "(C)[B"), (80, u "serialPersistentFields"), (0, u "[Ljava/io/ObjectStreamField;"), (0, .class_ 1104), (0, u "java/lang/String$CaseInsensitiveComparator"), (1, .class_ 1107), (0, u "java/io/Serializable"), (0, .class_ 1109), (0, u "java/lang/Comparable"), (0, .class_ 1111), (0, u "java/lang/constant/Constable"), (0, .class_ 1113), (0, u "java/lang/constant/ConstantDesc"), (2, u "serialVersionUID"), (0, u "J"), (3, u "REPL"), (0, u "C"), (2, u "LATIN1"), (1, u "UTF16")] 323

def k7m0 : Method := { name := "<init>", desc := "()V", sig := { parameters := [], returnType := none }, accessFlags := 1, code := none }
def k7c1 : Code := { maxStack := 5, maxLocals := 2, code := jdk_42_method_3_code, exceptionTable := #[], attributes := #[] }
def k7m1 : Method := { name := "<init>", desc := "([C)V", sig := { parameters := [(.array .char)], returnType := none }, accessFlags := 1, code := some k7c1 }
def k7c2 : Code := { maxStack := 4, maxLocals := 1, code := jdk_42_method_139_code, exceptionTable := #[], attributes := #[] }
def k7m2 : Method := { name := "valueOf", desc := "(C)Ljava/lang/String;", sig := { parameters := [.char], returnType := some (.object "java/lang/String") }, accessFlags := 9, code := some k7c2 }
def k7c3 : Code := { maxStack := 4, maxLocals := 6, code := jdk_42_method_149_code, exceptionTable := #[], attributes := #[] }
def k7m3 : Method := { name := "<init>", desc := "([CIILjava/lang/Void;)V", sig := { parameters := [(.array .char), .int, .int, (.object "java/lang/Void")], returnType := none }, accessFlags := 2, code := some k7c3 }
def k7c4 : Code := { maxStack := 2, maxLocals := 3, code := jdk_42_method_151_code, exceptionTable := #[], attributes := #[] }
def k7m4 : Method := { name := "<init>", desc := "([BB)V", sig := { parameters := [(.array .byte), .byte], returnType := none }, accessFlags := 0, code := some k7c4 }
/-- java/lang/String -/
def k7 : Class := { plain "java/lang/String" (some 0) with
  accessFlags := 49
  interfaces := #[2, 3, 4, 5, 6]
  cf := some (fileOf pool7 10 #[.nestMembers #[1103]] #[{ accessFlags := 1, nameIndex := 5, descriptorIndex := 6, attributes := #[] }, { accessFlags := 1, nameIndex := 5, descriptorIndex := 1010, attributes := #[] }, { accessFlags := 9, nameIndex := 782, descriptorIndex := 783, attributes := #[] }, { accessFlags := 2, nameIndex := 5, descriptorIndex := 29, attributes := #[] }, { accessFlags := 0, nameIndex := 5, descriptorIndex := 211, attributes := #[] }] 49 2 #[1106, 1108, 575, 1110, 1112] #[{ accessFlags := 18, nameIndex := 13, descriptorIndex := 14, attributes := #[] }, { accessFlags := 18, nameIndex := 17, descriptorIndex := 18, attributes := #[] }, { accessFlags := 2, nameIndex := 21, descriptorIndex := 22, attributes := #[] }, { accessFlags := 2, nameIndex := 25, descriptorIndex := 26, attributes := #[] }, { accessFlags := 26, nameIndex := 1116, descriptorIndex := 1117, attributes := #[] }, { accessFlags := 24, nameIndex := 40, descriptorIndex := 26, attributes := #[] }, { accessFlags := 26, nameIndex := 1101, descriptorIndex := 1102, attributes := #[] }, { accessFlags := 26, nameIndex := 1121, descriptorIndex := 1122, attributes := #[] }, { accessFlags := 25, nameIndex := 599, descriptorIndex := 600, attributes := #[] }, { accessFlags := 24, nameIndex := 1125, descriptorIndex := 18, attributes := #[] }, { accessFlags := 24, nameIndex := 1127, descriptorIndex := 18, attributes := #[] }])
  fields := #[{ name := "value", type := (.array .byte), accessFlags := 18, slot := 0, constantValue := 0 }, { name := "coder", type := .byte, accessFlags := 18, slot := 1, constantValue := 0 }, { name := "hash", type := .int, accessFlags := 2, slot := 2, constantValue := 0 }, { name := "hashIsZero", type := .boolean, accessFlags := 2, slot := 3, constantValue := 0 }, { name := "serialVersionUID", type := .long, accessFlags := 26, slot := 0, constantValue := 0 }, { name := "COMPACT_STRINGS", type := .boolean, accessFlags := 24, slot := 1, constantValue := 0 }, { name := "serialPersistentFields", type := (.array (.object "java/io/ObjectStreamField")), accessFlags := 26, slot := 2, constantValue := 0 }, { name := "REPL", type := .char, accessFlags := 26, slot := 3, constantValue := 0 }, { name := "CASE_INSENSITIVE_ORDER", type := (.object "java/util/Comparator"), accessFlags := 25, slot := 4, constantValue := 0 }, { name := "LATIN1", type := .byte, accessFlags := 24, slot := 5, constantValue := 0 }, { name := "UTF16", type := .byte, accessFlags := 24, slot := 6, constantValue := 0 }]
  methods := #[k7m0, k7m1, k7m2, k7m3, k7m4]
  instanceTypes := #[(.array .byte), .byte, .int, .boolean]
  staticTypes := #[.long, .boolean, (.array (.object "java/io/ObjectStreamField")), .char, (.object "java/util/Comparator"), .byte, .byte]
  resolved := Array.replicate 1451 none
  statics := some 0 }

def pool8 : Array CpInfo := pool [(6, .class_ 8), (1, u "java/lang/Object"), (0, u "<init>"), (0, u "()V"), (1, .class_ 14), (1, u "java/lang/StringUTF16"), (31, u "$assertionsDisabled"), (0, u "Z"), (13, u "HI_BYTE_SHIFT"), (0, u "I"), (2, u "LO_BYTE_SHIFT"), (49, .methodref 12 116), (0, .nameAndType 117 118), (0, u "compress"), (0, u "([CI[BII)I"), (3, u "([CII)[B"), (138, u "coderFromArrayLen"), (0, u "([BI)B"), (106, .class_ 371), (1, u "java/lang/StringUTF16$LinesSpliterator"), (58, u "MAX_LENGTH"), (196, .class_ 628), (0, u "java/lang/StringUTF16$CodePointsSpliterator"), (0, .class_ 630), (0, u "java/lang/StringUTF16$CharsSpliterator")] 4

def k8m0 : Method := { name := "<init>", desc := "()V", sig := { parameters := [], returnType := none }, accessFlags := 0, code := none }
def k8c1 : Code := { maxStack := 2, maxLocals := 2, code := jdk_52_method_15_code, exceptionTable := #[], attributes := #[] }
def k8m1 : Method := { name := "coderFromArrayLen", desc := "([BI)B", sig := { parameters := [(.array .byte), .int], returnType := some .byte }, accessFlags := 8, code := some k8c1 }
def k8c2 : Code := { maxStack := 5, maxLocals := 6, code := jdk_52_method_16_code, exceptionTable := #[], attributes := #[] }
def k8m2 : Method := { name := "compress", desc := "([CII)[B", sig := { parameters := [(.array .char), .int, .int], returnType := some (.array .byte) }, accessFlags := 9, code := some k8c2 }
def k8c3 : Code := { maxStack := 3, maxLocals := 7, code := jdk_52_method_21_code, exceptionTable := #[], attributes := #[] }
def k8m3 : Method := { name := "compress", desc := "([CI[BII)I", sig := { parameters := [(.array .char), .int, (.array .byte), .int, .int], returnType := some .int }, accessFlags := 9, code := some k8c3 }
/-- java/lang/StringUTF16 -/
def k8 : Class := { plain "java/lang/StringUTF16" (some 0) with
  accessFlags := 48
  interfaces := #[]
  cf := some (fileOf pool8 12 #[.nestMembers #[627, 629, 369]] #[{ accessFlags := 0, nameIndex := 9, descriptorIndex := 10, attributes := #[] }, { accessFlags := 8, nameIndex := 261, descriptorIndex := 262, attributes := #[] }, { accessFlags := 9, nameIndex := 117, descriptorIndex := 122, attributes := #[] }, { accessFlags := 9, nameIndex := 117, descriptorIndex := 118, attributes := #[] }] 48 6 #[] #[{ accessFlags := 26, nameIndex := 61, descriptorIndex := 62, attributes := #[] }, { accessFlags := 26, nameIndex := 65, descriptorIndex := 62, attributes := #[] }, { accessFlags := 24, nameIndex := 430, descriptorIndex := 62, attributes := #[] }, { accessFlags := 4120, nameIndex := 46, descriptorIndex := 47, attributes := #[] }])
  fields := #[{ name := "HI_BYTE_SHIFT", type := .int, accessFlags := 26, slot := 0, constantValue := 0 }, { name := "LO_BYTE_SHIFT", type := .int, accessFlags := 26, slot := 1, constantValue := 0 }, { name := "MAX_LENGTH", type := .int, accessFlags := 24, slot := 2, constantValue := 0 }, { name := "$assertionsDisabled", type := .boolean, accessFlags := 4120, slot := 3, constantValue := 0 }]
  methods := #[k8m0, k8m1, k8m2, k8m3]
  instanceTypes := #[]
  staticTypes := #[.int, .int, .int, .boolean]
  resolved := Array.replicate 635 none
  statics := none }

def pool9 : Array CpInfo := pool [(4, .class_ 6), (1, u "java/lang/Object"), (0, u "<init>"), (0, u "()V"), (5, .class_ 16), (1, u "java/lang/StringLatin1"), (73, u "canEncode"), (14, u "(C)Z"), (15, u "$assertionsDisabled"), (0, u "Z"), (98, .class_ 223), (1, u "java/lang/StringLatin1$LinesSpliterator"), (156, u "toBytes"), (1, u "(C)[B"), (7, .class_ 391), (0, u "java/lang/StringLatin1$CharsSpliterator")] 3

def k9m0 : Method := { name := "<init>", desc := "()V", sig := { parameters := [], returnType := none }, accessFlags := 0, code := none }
def k9c1 : Code := { maxStack := 2, maxLocals := 1, code := jdk_43_method_3_code, exceptionTable := #[], attributes := #[] }
def k9m1 : Method := { name := "canEncode", desc := "(C)Z", sig := { parameters := [.char], returnType := some .boolean }, accessFlags := 9, code := some k9c1 }
def k9c2 : Code := { maxStack := 4, maxLocals := 1, code := jdk_43_method_46_code, exceptionTable := #[], attributes := #[] }
def k9m2 : Method := { name := "toBytes", desc := "(C)[B", sig := { parameters := [.char], returnType := some (.array .byte) }, accessFlags := 9, code := some k9c2 }
/-- java/lang/StringLatin1 -/
def k9 : Class := { plain "java/lang/StringLatin1" (some 0) with
  accessFlags := 48
  interfaces := #[]
  cf := some (fileOf pool9 14 #[.nestMembers #[390, 221]] #[{ accessFlags := 0, nameIndex := 7, descriptorIndex := 8, attributes := #[] }, { accessFlags := 9, nameIndex := 90, descriptorIndex := 105, attributes := #[] }, { accessFlags := 9, nameIndex := 380, descriptorIndex := 382, attributes := #[] }] 48 4 #[] #[{ accessFlags := 4120, nameIndex := 121, descriptorIndex := 122, attributes := #[] }])
  fields := #[{ name := "$assertionsDisabled", type := .boolean, accessFlags := 4120, slot := 0, constantValue := 0 }]
  methods := #[k9m0, k9m1, k9m2]
  instanceTypes := #[]
  staticTypes := #[.boolean]
  resolved := Array.replicate 395 none
  statics := none }

def pool10 : Array CpInfo := pool [(1, .methodref 2 3), (0, .class_ 4), (0, .nameAndType 5 6), (0, u "java/lang/Object"), (0, u "<init>"), (0, u "()V"), (0, .class_ 8), (0, u "java/lang/Record")] 13

def k10c0 : Code := { maxStack := 1, maxLocals := 1, code := jdk_30_method_1_code, exceptionTable := #[], attributes := #[] }
def k10m0 : Method := { name := "<init>", desc := "()V", sig := { parameters := [], returnType := none }, accessFlags := 4, code := some k10c0 }
/-- java/lang/Record -/
def k10 : Class := { plain "java/lang/Record" (some 0) with
  accessFlags := 1057
  interfaces := #[]
  cf := some (fileOf pool10 7 #[] #[{ accessFlags := 4, nameIndex := 5, descriptorIndex := 6, attributes := #[] }] 1057 2 #[] #[])
  fields := #[]
  methods := #[k10m0]
  instanceTypes := #[]
  staticTypes := #[]
  resolved := Array.replicate 22 none
  statics := none }

def pool11 : Array CpInfo := pool [(1, .methodref 2 3), (0, .class_ 4), (0, .nameAndType 5 6), (0, u "java/lang/Record"), (0, u "<init>"), (0, u "()V"), (0, .fieldref 8 9), (0, .class_ 10), (0, .nameAndType 11 12), (0, u "com/example/jobwright/jobwright/JobChain$Node"), (0, u "state"), (0, u "Ljava/lang/String;"), (0, .fieldref 8 14), (0, .nameAndType 15 12), (0, u "job"), (0, .fieldref 8 17), (0, .nameAndType 18 12), (0, u "nextState"), (0, .fieldref 8 20), (0, .nameAndType 21 12), (0, u "errorState"), (0, .fieldref 8 23), (0, .nameAndType 24 25), (0, u "sink"), (0, u "Lcom/example/jobwright/jobwright/FileOrderSink;"), (0, .fieldref 8 27), (0, .nameAndType 28 29), (0, u "line"), (0, u "I"), (12, u "(Ljava/lang/String;Ljava/lang/String;Ljava/lang/String;Ljava/lang/String;Lcom/example/jobwright/jobwright/FileOrderSink;I)V"), (3, u "isEnd"), (0, u "()Z"), (8, .class_ 57), (0, u "com/example/jobwright/jobwright/JobChain")] 24

def k11c0 : Code := { maxStack := 2, maxLocals := 7, code := prog_23_method_1_code, exceptionTable := #[], attributes := #[] }
def k11m0 : Method := { name := "<init>", desc := "(Ljava/lang/String;Ljava/lang/String;Ljava/lang/String;Ljava/lang/String;Lcom/example/jobwright/jobwright/FileOrderSink;I)V", sig := { parameters := [(.object "java/lang/String"), (.object "java/lang/String"), (.object "java/lang/String"), (.object "java/lang/String"), (.object "com/example/jobwright/jobwright/FileOrderSink"), .int], returnType := none }, accessFlags := 0, code := some k11c0 }
def k11c1 : Code := { maxStack := 1, maxLocals := 1, code := prog_23_method_2_code, exceptionTable := #[], attributes := #[] }
def k11m1 : Method := { name := "isEnd", desc := "()Z", sig := { parameters := [], returnType := some .boolean }, accessFlags := 0, code := some k11c1 }
/-- com/example/jobwright/jobwright/JobChain$Node -/
def k11 : Class := { plain "com/example/jobwright/jobwright/JobChain$Node" (some 10) with
  accessFlags := 48
  interfaces := #[]
  cf := some (fileOf pool11 8 #[.nestHost 56] #[{ accessFlags := 0, nameIndex := 5, descriptorIndex := 42, attributes := #[] }, { accessFlags := 0, nameIndex := 46, descriptorIndex := 47, attributes := #[] }] 48 2 #[] #[{ accessFlags := 18, nameIndex := 11, descriptorIndex := 12, attributes := #[] }, { accessFlags := 18, nameIndex := 15, descriptorIndex := 12, attributes := #[] }, { accessFlags := 18, nameIndex := 18, descriptorIndex := 12, attributes := #[] }, { accessFlags := 18, nameIndex := 21, descriptorIndex := 12, attributes := #[] }, { accessFlags := 18, nameIndex := 24, descriptorIndex := 25, attributes := #[] }, { accessFlags := 18, nameIndex := 28, descriptorIndex := 29, attributes := #[] }])
  fields := #[{ name := "state", type := (.object "java/lang/String"), accessFlags := 18, slot := 0, constantValue := 0 }, { name := "job", type := (.object "java/lang/String"), accessFlags := 18, slot := 1, constantValue := 0 }, { name := "nextState", type := (.object "java/lang/String"), accessFlags := 18, slot := 2, constantValue := 0 }, { name := "errorState", type := (.object "java/lang/String"), accessFlags := 18, slot := 3, constantValue := 0 }, { name := "sink", type := (.object "com/example/jobwright/jobwright/FileOrderSink"), accessFlags := 18, slot := 4, constantValue := 0 }, { name := "line", type := .int, accessFlags := 18, slot := 5, constantValue := 0 }]
  methods := #[k11m0, k11m1]
  instanceTypes := #[(.object "java/lang/String"), (.object "java/lang/String"), (.object "java/lang/String"), (.object "java/lang/String"), (.object "com/example/jobwright/jobwright/FileOrderSink"), .int]
  staticTypes := #[]
  resolved := Array.replicate 82 none
  statics := none }

def pool12 : Array CpInfo := pool [(1, .methodref 2 3), (0, .class_ 4), (0, .nameAndType 5 6), (0, u "java/lang/Record"), (0, u "<init>"), (0, u "()V"), (0, .fieldref 8 9), (0, .class_ 10), (0, .nameAndType 11 12), (0, u "com/example/jobwright/jobwright/FileOrderSink"), (0, u "moveTo"), (0, u "Ljava/lang/String;"), (0, .fieldref 8 14), (0, .nameAndType 15 16), (0, u "remove"), (0, u "Z"), (43, u "(Ljava/lang/String;Z)V")] 126

def k12c0 : Code := { maxStack := 2, maxLocals := 3, code := prog_9_method_1_code, exceptionTable := #[], attributes := #[] }
def k12m0 : Method := { name := "<init>", desc := "(Ljava/lang/String;Z)V", sig := { parameters := [(.object "java/lang/String"), .boolean], returnType := none }, accessFlags := 0, code := some k12c0 }
/-- com/example/jobwright/jobwright/FileOrderSink -/
def k12 : Class := { plain "com/example/jobwright/jobwright/FileOrderSink" (some 10) with
  accessFlags := 48
  interfaces := #[]
  cf := some (fileOf pool12 8 #[] #[{ accessFlags := 0, nameIndex := 5, descriptorIndex := 60, attributes := #[] }] 48 2 #[] #[{ accessFlags := 18, nameIndex := 11, descriptorIndex := 12, attributes := #[] }, { accessFlags := 18, nameIndex := 15, descriptorIndex := 16, attributes := #[] }])
  fields := #[{ name := "moveTo", type := (.object "java/lang/String"), accessFlags := 18, slot := 0, constantValue := 0 }, { name := "remove", type := .boolean, accessFlags := 18, slot := 1, constantValue := 0 }]
  methods := #[k12m0]
  instanceTypes := #[(.object "java/lang/String"), .boolean]
  staticTypes := #[]
  resolved := Array.replicate 187 none
  statics := none }

def pool13 : Array CpInfo := pool [(2, .class_ 4), (1, u "java/lang/Object"), (0, u "<init>"), (0, u "()V"), (17, .class_ 26), (1, u "jdk/internal/util/Preconditions"), (28, .class_ 56), (0, u "jdk/internal/util/Preconditions$4"), (57, .class_ 115), (0, u "jdk/internal/util/Preconditions$1"), (7, u "SIOOBE_FORMATTER"), (0, u "Ljava/util/function/BiFunction;"), (0, .class_ 126), (0, u "jdk/internal/util/Preconditions$2"), (3, u "AIOOBE_FORMATTER"), (0, .class_ 132), (0, u "jdk/internal/util/Preconditions$3"), (3, u "IOOBE_FORMATTER")] 57

def k13m0 : Method := { name := "<init>", desc := "()V", sig := { parameters := [], returnType := none }, accessFlags := 1, code := none }
/-- jdk/internal/util/Preconditions -/
def k13 : Class := { plain "jdk/internal/util/Preconditions" (some 0) with
  accessFlags := 33
  interfaces := #[]
  cf := some (fileOf pool13 24 #[.nestMembers #[55, 131, 125, 114]] #[{ accessFlags := 1, nameIndex := 5, descriptorIndex := 6, attributes := #[] }] 33 2 #[] #[{ accessFlags := 25, nameIndex := 123, descriptorIndex := 124, attributes := #[] }, { accessFlags := 25, nameIndex := 130, descriptorIndex := 124, attributes := #[] }, { accessFlags := 25, nameIndex := 136, descriptorIndex := 124, attributes := #[] }])
  fields := #[{ name := "SIOOBE_FORMATTER", type := (.object "java/util/function/BiFunction"), accessFlags := 25, slot := 0, constantValue := 0 }, { name := "AIOOBE_FORMATTER", type := (.object "java/util/function/BiFunction"), accessFlags := 25, slot := 1, constantValue := 0 }, { name := "IOOBE_FORMATTER", type := (.object "java/util/function/BiFunction"), accessFlags := 25, slot := 2, constantValue := 0 }]
  methods := #[k13m0]
  instanceTypes := #[]
  staticTypes := #[(.object "java/util/function/BiFunction"), (.object "java/util/function/BiFunction"), (.object "java/util/function/BiFunction")]
  resolved := Array.replicate 194 none
  statics := some 1 }

def pool14 : Array CpInfo := pool [(9, u "<init>"), (6, .class_ 18), (1, u "java/lang/Object"), (0, u "()V"), (1, .class_ 23), (1, u "jdk/internal/util/ArraysSupport"), (0, u "LOG2_ARRAY_LONG_INDEX_SCALE"), (0, u "I"), (2, u "U"), (0, u "Ljdk/internal/misc/Unsafe;"), (8, u "BIG_ENDIAN"), (0, u "Z"), (8, u "LOG2_BYTE_BIT_SIZE"), (4, u "LOG2_ARRAY_INT_INDEX_SCALE"), (54, u "JLA"), (0, u "Ljdk/internal/access/JavaLangAccess;"), (11, u "LOG2_ARRAY_BOOLEAN_INDEX_SCALE"), (9, u "LOG2_ARRAY_BYTE_INDEX_SCALE"), (5, u "LOG2_ARRAY_CHAR_INDEX_SCALE"), (5, u "LOG2_ARRAY_SHORT_INDEX_SCALE"), (18, u "LOG2_ARRAY_FLOAT_INDEX_SCALE"), (24, u "LOG2_ARRAY_DOUBLE_INDEX_SCALE"), (89, u "T_BOOLEAN"), (2, u "T_CHAR"), (1, u "T_FLOAT"), (1, u "T_DOUBLE"), (1, u "T_BYTE"), (1, u "T_SHORT"), (1, u "T_INT"), (1, u "T_LONG"), (1, u "SOFT_MAX_ARRAY_LENGTH")] 83

def k14m0 : Method := { name := "<init>", desc := "()V", sig := { parameters := [], returnType := none }, accessFlags := 2, code := none }
/-- jdk/internal/util/ArraysSupport -/
def k14 : Class := { plain "jdk/internal/util/ArraysSupport" (some 0) with
  accessFlags := 33
  interfaces := #[]
  cf := some (fileOf pool14 21 #[] #[{ accessFlags := 2, nameIndex := 9, descriptorIndex := 19, attributes := #[] }] 33 16 #[] #[{ accessFlags := 24, nameIndex := 28, descriptorIndex := 29, attributes := #[] }, { accessFlags := 26, nameIndex := 38, descriptorIndex := 39, attributes := #[] }, { accessFlags := 25, nameIndex := 121, descriptorIndex := 25, attributes := #[] }, { accessFlags := 25, nameIndex := 131, descriptorIndex := 25, attributes := #[] }, { accessFlags := 25, nameIndex := 137, descriptorIndex := 25, attributes := #[] }, { accessFlags := 25, nameIndex := 143, descriptorIndex := 25, attributes := #[] }, { accessFlags := 25, nameIndex := 53, descriptorIndex := 25, attributes := #[] }, { accessFlags := 25, nameIndex := 24, descriptorIndex := 25, attributes := #[] }, { accessFlags := 25, nameIndex := 162, descriptorIndex := 25, attributes := #[] }, { accessFlags := 25, nameIndex := 187, descriptorIndex := 25, attributes := #[] }, { accessFlags := 26, nameIndex := 48, descriptorIndex := 25, attributes := #[] }, { accessFlags := 25, nameIndex := 277, descriptorIndex := 25, attributes := #[] }, { accessFlags := 25, nameIndex := 280, descriptorIndex := 25, attributes := #[] }, { accessFlags := 25, nameIndex := 282, descriptorIndex := 25, attributes := #[] }, { accessFlags := 25, nameIndex := 284, descriptorIndex := 25, attributes := #[] }, { accessFlags := 25, nameIndex := 286, descriptorIndex := 25, attributes := #[] }, { accessFlags := 25, nameIndex := 288, descriptorIndex := 25, attributes := #[] }, { accessFlags := 25, nameIndex := 290, descriptorIndex := 25, attributes := #[] }, { accessFlags := 25, nameIndex := 292, descriptorIndex := 25, attributes := #[] }, { accessFlags := 26, nameIndex := 108, descriptorIndex := 109, attributes := #[] }, { accessFlags := 25, nameIndex := 294, descriptorIndex := 25, attributes := #[] }])
  fields := #[{ name := "U", type := (.object "jdk/internal/misc/Unsafe"), accessFlags := 24, slot := 0, constantValue := 0 }, { name := "BIG_ENDIAN", type := .boolean, accessFlags := 26, slot := 1, constantValue := 0 }, { name := "LOG2_ARRAY_BOOLEAN_INDEX_SCALE", type := .int, accessFlags := 25, slot := 2, constantValue := 0 }, { name := "LOG2_ARRAY_BYTE_INDEX_SCALE", type := .int, accessFlags := 25, slot := 3, constantValue := 0 }, { name := "LOG2_ARRAY_CHAR_INDEX_SCALE", type := .int, accessFlags := 25, slot := 4, constantValue := 0 }, { name := "LOG2_ARRAY_SHORT_INDEX_SCALE", type := .int, accessFlags := 25, slot := 5, constantValue := 0 }, { name := "LOG2_ARRAY_INT_INDEX_SCALE", type := .int, accessFlags := 25, slot := 6, constantValue := 0 }, { name := "LOG2_ARRAY_LONG_INDEX_SCALE", type := .int, accessFlags := 25, slot := 7, constantValue := 0 }, { name := "LOG2_ARRAY_FLOAT_INDEX_SCALE", type := .int, accessFlags := 25, slot := 8, constantValue := 0 }, { name := "LOG2_ARRAY_DOUBLE_INDEX_SCALE", type := .int, accessFlags := 25, slot := 9, constantValue := 0 }, { name := "LOG2_BYTE_BIT_SIZE", type := .int, accessFlags := 26, slot := 10, constantValue := 0 }, { name := "T_BOOLEAN", type := .int, accessFlags := 25, slot := 11, constantValue := 0 }, { name := "T_CHAR", type := .int, accessFlags := 25, slot := 12, constantValue := 0 }, { name := "T_FLOAT", type := .int, accessFlags := 25, slot := 13, constantValue := 0 }, { name := "T_DOUBLE", type := .int, accessFlags := 25, slot := 14, constantValue := 0 }, { name := "T_BYTE", type := .int, accessFlags := 25, slot := 15, constantValue := 0 }, { name := "T_SHORT", type := .int, accessFlags := 25, slot := 16, constantValue := 0 }, { name := "T_INT", type := .int, accessFlags := 25, slot := 17, constantValue := 0 }, { name := "T_LONG", type := .int, accessFlags := 25, slot := 18, constantValue := 0 }, { name := "JLA", type := (.object "jdk/internal/access/JavaLangAccess"), accessFlags := 26, slot := 19, constantValue := 0 }, { name := "SOFT_MAX_ARRAY_LENGTH", type := .int, accessFlags := 25, slot := 20, constantValue := 0 }]
  methods := #[k14m0]
  instanceTypes := #[]
  staticTypes := #[(.object "jdk/internal/misc/Unsafe"), .boolean, .int, .int, .int, .int, .int, .int, .int, .int, .int, .int, .int, .int, .int, .int, .int, .int, .int, (.object "jdk/internal/access/JavaLangAccess"), .int]
  resolved := Array.replicate 378 none
  statics := none }

def pool15 : Array CpInfo := pool [(1, u "java/lang/Cloneable"), (0, .class_ 1), (0, u "java/lang/Object"), (0, .class_ 3)] 3

/-- java/lang/Cloneable -/
def k15 : Class := { plain "java/lang/Cloneable" (some 0) with
  accessFlags := 1537
  interfaces := #[]
  cf := some (fileOf pool15 2 #[] #[] 1537 4 #[] #[])
  fields := #[]
  methods := #[]
  instanceTypes := #[]
  staticTypes := #[]
  resolved := Array.replicate 8 none
  statics := none }

/-- the primitive byte -/
def k16 : Class := { plain "byte" none with kind := .primitive 'B', accessFlags := 0x411 }
/-- [B -/
def k17 : Class := { plain "[B" (some 0) with kind := .array 16 .byte, interfaces := #[15, 2], accessFlags := 1041 }

/-- the primitive char -/
def k18 : Class := { plain "char" none with kind := .primitive 'C', accessFlags := 0x411 }
/-- [C -/
def k19 : Class := { plain "[C" (some 0) with kind := .array 18 .char, interfaces := #[15, 2], accessFlags := 1041 }

def heap : Heap := #[{ cls := 7, slots := #[.long 0, .int 1, .null, .int 0, .null, .int 0, .int 0], vm := .statics 7 },
  { cls := 13, slots := #[.null, .null, .null], vm := .statics 13 }]
def classes : Array Class := #[k0, k1, k2, k3, k4, k5, k6, k7, k8, k9, k10, k11, k12, k13, k14, k15, k16, k17, k18, k19]
def interned : List (Array UInt16 × Addr) := []
def slotsUsed : Nat := 10
def theMethod : MethodId := ⟨1, 2⟩
def args0 : Array Value := #[.int 5, .int 5, .int 5, .int 5]
def aboutOver (below : List Frame) : State where
  vm := { classes := classes, interned := interned.toArray }
  heap := heap
  slotsUsed := slotsUsed
  threads := #[{ frames := .invoking theMethod args0 :: below }]
def below0 : List Frame := [.native { method := ⟨0, 0⟩, args := #[] }]
def about1 : State := aboutOver below0
def p0 : Program := .bare "" "" ""
def e0 : Env := launch0.env 0 0 0
theorem w_frames : about1.frames = Frame.invoking theMethod args0 :: below0 := rfl
set_option maxRecDepth 65536 in
theorem w_args : argsFit about1.vm theMethod args0 = true := by decide +kernel
set_option maxRecDepth 65536 in
theorem w_heap : heapFits about1 = true := by decide +kernel
set_option maxRecDepth 65536 in
theorem w_runnable : about1.curStatus? = some .runnable := by decide +kernel
set_option maxRecDepth 65536 in
theorem w_alone : about1.alone = true := by decide +kernel
set_option maxRecDepth 65536 in
theorem w_named : about1.methodNamed? x = some theMethod := by decide +kernel
set_option maxRecDepth 65536 in
theorem w_hears : about1.hears theMethod below0 = true := by decide +kernel
set_option maxRecDepth 65536 in
theorem w_ripe : about1.ripe theMethod args0 below0 = true := by decide +kernel
theorem w_running : about1.status = .running := rfl
set_option maxRecDepth 65536 in
theorem w_room : about1.hasRoom e0.platform room_1 = true :=
  launch0.hasRoom_least _ room_1 (by decide +kernel) (by decide +kernel) (by decide +kernel) (by decide +kernel) (by decide +kernel) (by decide +kernel)
theorem allAtoms_all (ts : List Jvm.Cond) (a : Array Jvm.Value) (st : Jvm.State) : (allAtoms ts).before a st = ts.all (fun c => c.before a st) := by
  induction ts with
  | nil => rfl
  | cons c t ih =>
    show (Jvm.Cond.and c (allAtoms t)).before a st = _
    rw [Jvm.Cond.before_and, ih, List.all_cons]
def words1 : List Jvm.Cond := Jvm.Cond.code x code maxLocals ret :: tables_1
/-- a 'code' word, met by the world's own term for the bytes: nothing is compared byte by byte -/
theorem code_word {y : MethodName} {bytes : ByteArray} {mx : Nat} {rt : Option FieldType} {a : Array Value} {s : State} {m : MethodId} {meth : Method} {c : Code} (h1 : s.methodNamed? y = some m) (h2 : s.vm.method? m = some meth) (h3 : meth.code = some c) (h4 : c.code = bytes)
    (h5 : (c.maxLocals == mx && c.exceptionTable.isEmpty && decide (c.maxStack ≤ mostOperands) && decide (meth.sig.returnType = rt) && !meth.locks && decide (parseMethodDescriptor y.desc = some meth.sig)) = true) : (Jvm.Cond.code y bytes mx rt).before a s = true := by
  simp only [Bool.and_eq_true, beq_iff_eq, Bool.not_eq_true', decide_eq_true_eq] at h5
  obtain ⟨⟨⟨⟨⟨g1, g2⟩, g3⟩, g4⟩, g5⟩, g6⟩ := h5
  simp [Cond.before, Cond.holds, Cond.value, h1, h2, h3, h4, g1, g2, g3, g4, g5, g6]
def isCode : Jvm.Cond → Bool
  | .code _ _ _ _ => true
  | _ => false
theorem all_split {L : List Jvm.Cond} {P : Jvm.Cond → Bool} (h1 : L.all (fun c => isCode c || P c) = true) (h2 : ∀ c ∈ L.filter isCode, P c = true) : L.all P = true := by
  refine List.all_eq_true.mpr fun c hc => ?_
  have h := List.all_eq_true.mp h1 c hc
  rcases Bool.eq_false_or_eq_true (isCode c) with hi | hi
  · exact h2 c (List.mem_filter.mpr ⟨hc, hi⟩)
  · simpa [hi] using h
set_option maxRecDepth 65536 in
theorem w_c0 : (Jvm.Cond.code x code maxLocals ret).before args0 about1 = true := code_word (m := ⟨1, 2⟩) (meth := k1m2) (c := k1c2) (by decide +kernel) rfl rfl rfl (by decide +kernel)
set_option maxRecDepth 65536 in
theorem w_c1 : (Jvm.Cond.code ({ cls := "java/lang/String", name := "<init>", desc := "([C)V" } : Jvm.MethodName) jdk_42_method_3_code (2 : Nat) (Option.none : Option Jvm.ClassFile.FieldType)).before args0 about1 = true := code_word (m := ⟨7, 1⟩) (meth := k7m1) (c := k7c1) (by decide +kernel) rfl rfl rfl (by decide +kernel)
set_option maxRecDepth 65536 in
theorem w_c2 : (Jvm.Cond.code ({ cls := "java/lang/String", name := "<init>", desc := "([CIILjava/lang/Void;)V" } : Jvm.MethodName) jdk_42_method_149_code (6 : Nat) (Option.none : Option Jvm.ClassFile.FieldType)).before args0 about1 = true := code_word (m := ⟨7, 3⟩) (meth := k7m3) (c := k7c3) (by decide +kernel) rfl rfl rfl (by decide +kernel)
set_option maxRecDepth 65536 in
theorem w_c3 : (Jvm.Cond.code ({ cls := "java/lang/Object", name := "<init>", desc := "()V" } : Jvm.MethodName) object_method_1_code (1 : Nat) (Option.none : Option Jvm.ClassFile.FieldType)).before args0 about1 = true := code_word (m := ⟨0, 0⟩) (meth := k0m0) (c := k0c0) (by decide +kernel) rfl rfl rfl (by decide +kernel)
set_option maxRecDepth 65536 in
theorem w_c4 : (Jvm.Cond.code ({ cls := "java/lang/StringUTF16", name := "compress", desc := "([CII)[B" } : Jvm.MethodName) jdk_52_method_16_code (6 : Nat) (Option.some (Jvm.ClassFile.FieldType.array Jvm.ClassFile.FieldType.byte))).before args0 about1 = true := code_word (m := ⟨8, 2⟩) (meth := k8m2) (c := k8c2) (by decide +kernel) rfl rfl rfl (by decide +kernel)
set_option maxRecDepth 65536 in
theorem w_c5 : (Jvm.Cond.code ({ cls := "java/lang/StringUTF16", name := "compress", desc := "([CI[BII)I" } : Jvm.MethodName) jdk_52_method_21_code (7 : Nat) (Option.some Jvm.ClassFile.FieldType.int)).before args0 about1 = true := code_word (m := ⟨8, 3⟩) (meth := k8m3) (c := k8c3) (by decide +kernel) rfl rfl rfl (by decide +kernel)
set_option maxRecDepth 65536 in
theorem w_c6 : (Jvm.Cond.code ({ cls := "java/lang/StringUTF16", name := "coderFromArrayLen", desc := "([BI)B" } : Jvm.MethodName) jdk_52_method_15_code (2 : Nat) (Option.some Jvm.ClassFile.FieldType.byte)).before args0 about1 = true := code_word (m := ⟨8, 1⟩) (meth := k8m1) (c := k8c1) (by decide +kernel) rfl rfl rfl (by decide +kernel)
set_option maxRecDepth 65536 in
theorem w_c7 : (Jvm.Cond.code ({ cls := "java/lang/String", name := "valueOf", desc := "(C)Ljava/lang/String;" } : Jvm.MethodName) jdk_42_method_139_code (1 : Nat) (Option.some (Jvm.ClassFile.FieldType.object "java/lang/String"))).before args0 about1 = true := code_word (m := ⟨7, 2⟩) (meth := k7m2) (c := k7c2) (by decide +kernel) rfl rfl rfl (by decide +kernel)
set_option maxRecDepth 65536 in
theorem w_c8 : (Jvm.Cond.code ({ cls := "java/lang/StringLatin1", name := "canEncode", desc := "(C)Z" } : Jvm.MethodName) jdk_43_method_3_code (1 : Nat) (Option.some Jvm.ClassFile.FieldType.boolean)).before args0 about1 = true := code_word (m := ⟨9, 1⟩) (meth := k9m1) (c := k9c1) (by decide +kernel) rfl rfl rfl (by decide +kernel)
set_option maxRecDepth 65536 in
theorem w_c9 : (Jvm.Cond.code ({ cls := "java/lang/StringLatin1", name := "toBytes", desc := "(C)[B" } : Jvm.MethodName) jdk_43_method_46_code (1 : Nat) (Option.some (Jvm.ClassFile.FieldType.array Jvm.ClassFile.FieldType.byte))).before args0 about1 = true := code_word (m := ⟨9, 2⟩) (meth := k9m2) (c := k9c2) (by decide +kernel) rfl rfl rfl (by decide +kernel)
set_option maxRecDepth 65536 in
theorem w_c10 : (Jvm.Cond.code ({ cls := "java/lang/String", name := "<init>", desc := "([BB)V" } : Jvm.MethodName) jdk_42_method_151_code (3 : Nat) (Option.none : Option Jvm.ClassFile.FieldType)).before args0 about1 = true := code_word (m := ⟨7, 4⟩) (meth := k7m4) (c := k7c4) (by decide +kernel) rfl rfl rfl (by decide +kernel)
set_option maxRecDepth 65536 in
theorem w_c11 : (Jvm.Cond.code ({ cls := "com/example/jobwright/jobwright/NodeIsEndPinLaw", name := "pick", desc := "(ILjava/lang/String;Ljava/lang/String;)Ljava/lang/String;" } : Jvm.MethodName) method_2_code (3 : Nat) (Option.some (Jvm.ClassFile.FieldType.object "java/lang/String"))).before args0 about1 = true := code_word (m := ⟨1, 1⟩) (meth := k1m1) (c := k1c1) (by decide +kernel) rfl rfl rfl (by decide +kernel)
set_option maxRecDepth 65536 in
theorem w_c12 : (Jvm.Cond.code ({ cls := "com/example/jobwright/jobwright/JobChain$Node", name := "<init>", desc := "(Ljava/lang/String;Ljava/lang/String;Ljava/lang/String;Ljava/lang/String;Lcom/example/jobwright/jobwright/FileOrderSink;I)V" } : Jvm.MethodName) prog_23_method_1_code (7 : Nat) (Option.none : Option Jvm.ClassFile.FieldType)).before args0 about1 = true := code_word (m := ⟨11, 0⟩) (meth := k11m0) (c := k11c0) (by decide +kernel) rfl rfl rfl (by decide +kernel)
set_option maxRecDepth 65536 in
theorem w_c13 : (Jvm.Cond.code ({ cls := "java/lang/Record", name := "<init>", desc := "()V" } : Jvm.MethodName) jdk_30_method_1_code (1 : Nat) (Option.none : Option Jvm.ClassFile.FieldType)).before args0 about1 = true := code_word (m := ⟨10, 0⟩) (meth := k10m0) (c := k10c0) (by decide +kernel) rfl rfl rfl (by decide +kernel)
set_option maxRecDepth 65536 in
theorem w_c14 : (Jvm.Cond.code ({ cls := "com/example/jobwright/jobwright/JobChain$Node", name := "isEnd", desc := "()Z" } : Jvm.MethodName) prog_23_method_2_code (1 : Nat) (Option.some Jvm.ClassFile.FieldType.boolean)).before args0 about1 = true := code_word (m := ⟨11, 1⟩) (meth := k11m1) (c := k11c1) (by decide +kernel) rfl rfl rfl (by decide +kernel)
set_option maxRecDepth 65536 in
theorem w_c15 : (Jvm.Cond.code ({ cls := "com/example/jobwright/jobwright/FileOrderSink", name := "<init>", desc := "(Ljava/lang/String;Z)V" } : Jvm.MethodName) prog_9_method_1_code (3 : Nat) (Option.none : Option Jvm.ClassFile.FieldType)).before args0 about1 = true := code_word (m := ⟨12, 0⟩) (meth := k12m0) (c := k12c0) (by decide +kernel) rfl rfl rfl (by decide +kernel)
def codes1 : List Jvm.Cond := [Jvm.Cond.code x code maxLocals ret, Jvm.Cond.code ({ cls := "java/lang/String", name := "<init>", desc := "([C)V" } : Jvm.MethodName) jdk_42_method_3_code (2 : Nat) (Option.none : Option Jvm.ClassFile.FieldType), Jvm.Cond.code ({ cls := "java/lang/String", name := "<init>", desc := "([CIILjava/lang/Void;)V" } : Jvm.MethodName) jdk_42_method_149_code (6 : Nat) (Option.none : Option Jvm.ClassFile.FieldType), Jvm.Cond.code ({ cls := "java/lang/Object", name := "<init>", desc := "()V" } : Jvm.MethodName) object_method_1_code (1 : Nat) (Option.none : Option Jvm.ClassFile.FieldType), Jvm.Cond.code ({ cls := "java/lang/StringUTF16", name := "compress", desc := "([CII)[B" } : Jvm.MethodName) jdk_52_method_16_code (6 : Nat) (Option.some (Jvm.ClassFile.FieldType.array Jvm.ClassFile.FieldType.byte)), Jvm.Cond.code ({ cls := "java/lang/StringUTF16", name := "compress", desc := "([CI[BII)I" } : Jvm.MethodName) jdk_52_method_21_code (7 : Nat) (Option.some Jvm.ClassFile.FieldType.int), Jvm.Cond.code ({ cls := "java/lang/StringUTF16", name := "coderFromArrayLen", desc := "([BI)B" } : Jvm.MethodName) jdk_52_method_15_code (2 : Nat) (Option.some Jvm.ClassFile.FieldType.byte), Jvm.Cond.code ({ cls := "java/lang/String", name := "valueOf", desc := "(C)Ljava/lang/String;" } : Jvm.MethodName) jdk_42_method_139_code (1 : Nat) (Option.some (Jvm.ClassFile.FieldType.object "java/lang/String")), Jvm.Cond.code ({ cls := "java/lang/StringLatin1", name := "canEncode", desc := "(C)Z" } : Jvm.MethodName) jdk_43_method_3_code (1 : Nat) (Option.some Jvm.ClassFile.FieldType.boolean), Jvm.Cond.code ({ cls := "java/lang/StringLatin1", name := "toBytes", desc := "(C)[B" } : Jvm.MethodName) jdk_43_method_46_code (1 : Nat) (Option.some (Jvm.ClassFile.FieldType.array Jvm.ClassFile.FieldType.byte)), Jvm.Cond.code ({ cls := "java/lang/String", name := "<init>", desc := "([BB)V" } : Jvm.MethodName) jdk_42_method_151_code (3 : Nat) (Option.none : Option Jvm.ClassFile.FieldType), Jvm.Cond.code ({ cls := "com/example/jobwright/jobwright/NodeIsEndPinLaw", name := "pick", desc := "(ILjava/lang/String;Ljava/lang/String;)Ljava/lang/String;" } : Jvm.MethodName) method_2_code (3 : Nat) (Option.some (Jvm.ClassFile.FieldType.object "java/lang/String")), Jvm.Cond.code ({ cls := "com/example/jobwright/jobwright/JobChain$Node", name := "<init>", desc := "(Ljava/lang/String;Ljava/lang/String;Ljava/lang/String;Ljava/lang/String;Lcom/example/jobwright/jobwright/FileOrderSink;I)V" } : Jvm.MethodName) prog_23_method_1_code (7 : Nat) (Option.none : Option Jvm.ClassFile.FieldType), Jvm.Cond.code ({ cls := "java/lang/Record", name := "<init>", desc := "()V" } : Jvm.MethodName) jdk_30_method_1_code (1 : Nat) (Option.none : Option Jvm.ClassFile.FieldType), Jvm.Cond.code ({ cls := "com/example/jobwright/jobwright/JobChain$Node", name := "isEnd", desc := "()Z" } : Jvm.MethodName) prog_23_method_2_code (1 : Nat) (Option.some Jvm.ClassFile.FieldType.boolean), Jvm.Cond.code ({ cls := "com/example/jobwright/jobwright/FileOrderSink", name := "<init>", desc := "(Ljava/lang/String;Z)V" } : Jvm.MethodName) prog_9_method_1_code (3 : Nat) (Option.none : Option Jvm.ClassFile.FieldType)]
set_option maxRecDepth 65536 in
theorem codes_eq : words1.filter isCode = codes1 := rfl
theorem w_codes : ∀ c ∈ words1.filter isCode, c.before args0 about1 = true := by
  rw [codes_eq]
  intro c hc
  simp only [codes1, List.mem_cons, List.not_mem_nil, or_false] at hc
  rcases hc with rfl | rfl | rfl | rfl | rfl | rfl | rfl | rfl | rfl | rfl | rfl | rfl | rfl | rfl | rfl | rfl
  · exact w_c0
  · exact w_c1
  · exact w_c2
  · exact w_c3
  · exact w_c4
  · exact w_c5
  · exact w_c6
  · exact w_c7
  · exact w_c8
  · exact w_c9
  · exact w_c10
  · exact w_c11
  · exact w_c12
  · exact w_c13
  · exact w_c14
  · exact w_c15
set_option maxRecDepth 65536 in
theorem w_t1 : (words1.take 24).all (fun c => isCode c || c.before args0 about1) = true := by decide +kernel
set_option maxRecDepth 65536 in
theorem w_t2 : ((words1.drop 24).take 24).all (fun c => isCode c || c.before args0 about1) = true := by decide +kernel
set_option maxRecDepth 65536 in
theorem w_t3 : (((words1.drop 24).drop 24).take 24).all (fun c => isCode c || c.before args0 about1) = true := by decide +kernel
set_option maxRecDepth 65536 in
theorem w_t4 : (((words1.drop 24).drop 24).drop 24).all (fun c => isCode c || c.before args0 about1) = true := by decide +kernel
theorem w_tables : (allAtoms (Jvm.Cond.code x code maxLocals ret :: tables_1)).before args0 about1 = true := by
  rw [allAtoms_all]
  show words1.all (fun c => c.before args0 about1) = true
  refine all_split ?_ w_codes
  rw [← List.take_append_drop 24 words1, List.all_append, w_t1, ← List.take_append_drop 24 (words1.drop 24), List.all_append, w_t2, ← List.take_append_drop 24 ((words1.drop 24).drop 24), List.all_append, w_t3, w_t4]
  rfl
set_option maxRecDepth 65536 in
theorem w_rest : rest_1_c.before args0 about1 = true := by decide +kernel
set_option maxRecDepth 65536 in
theorem w_case : (Jvm.Cond.and given_1 narrow_1).before args0 about1 = true := by decide +kernel
theorem w_applies : (headSpec (Jvm.Cond.code x code maxLocals ret :: tables_1) room_1).applies x e0.platform about1 = true :=
  (Spec.applies_iff w_frames).mpr ⟨w_running, w_runnable, w_alone, w_named, w_hears, w_ripe, w_room, w_tables⟩
theorem atStart : AtStart classFile x code maxLocals ret World_1 tables_1 room_1 Calls_1 rest_1 Pre_1 launch0 p0 e0 about1 theMethod args0 below0 :=
  ⟨lists_1, trivial, launch0.admits_env _ _ _, launch0.least_env, fairChoices_fair.cas, fairChoices_fair.clock, w_frames, w_args, w_heap, w_applies, trivial, w_rest, w_case⟩
end start1
theorem witness_1 : WitnessClaimed_1 := ⟨start1.p0, start1.e0, start1.about1, start1.theMethod, start1.args0, start1.below0, start1.atStart⟩
end Jvm.Pilot.@@N@@
