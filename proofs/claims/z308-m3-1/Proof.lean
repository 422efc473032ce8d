import JvmDerived
import JvmDerived.Pilot.@@N@@Statement
import JvmDerived.Pilot.@@N@@Code
set_option linter.unusedVariables false
set_option linter.unusedSimpArgs false
/- laws to paste: Road.backV, Road.eqW, Road.codOf (cut by pick.py; bodies as the Statement names them) -/
namespace Jvm.Pilot.@@N@@
namespace StrChars
open Jvm Sem ClassFile Op Lib Jvm.Stand Jvm.Free.XT Jvm.Free.ALB Jvm.Free.JM Jvm.Free
open Jvm.Lib.Cold (StaticIs)
/-- a char array whose places are chars -/
def Ch (a : Addr) (A : Cell) (U : State) : Prop := Arr .char a A U ∧ Typed .char A
theorem Ch.mv {a : Addr} {A : Cell} {U U' : State} (h : Ch a A U) (hal : U.vm.Alike U'.vm) (hh : U'.heap = U.heap) : Ch a A U' := ⟨h.1.mv hal hh, h.2⟩
theorem Ch.keep {a : Addr} {A : Cell} {U U' : State} (h : Ch a A U) (hal : U.vm.Alike U'.vm) (hk : U'.heap[a]? = some A) : Ch a A U' := ⟨h.1.keep hal hk, h.2⟩
/-- what place i of a char[]'s cell holds -/
def cv (A : Cell) (i : Nat) : Int32 := match A.slots[i]? with | some (.int x) => x | _ => 0
theorem Ch.get {a : Addr} {A : Cell} {U : State} (h : Ch a A U) {i : Nat} (hi : i < A.slots.size) : A.slots[i]? = some (.int (cv A i)) := by
  have e := Array.getElem?_eq_getElem hi
  have f := h.2 i _ e
  unfold cv; rw [e]
  generalize A.slots[i] = v at f
  cases v <;> simp [fits] at f ⊢
/-- the byte that i2b leaves of a char -/
def lo8 (x : Int32) : Int32 := x.toInt8.toInt32
theorem fits_lo8 (y : Int32) : fits .byte (.int (lo8 y)) = true := by
  have h1 := y.toInt8.le_toInt
  have h2 := y.toInt8.toInt_lt
  simp only [lo8, fits, Bool.and_eq_true, decide_eq_true_eq, Int32.le_iff_toInt_le, Int8.toInt_toInt32, show (-128 : Int32).toInt = -128 from by decide, show (127 : Int32).toInt = 127 from by decide]
  omega
/-- A' is A but that each place j of lo .. hi - 1 holds f j -/
def Laid (A A' : Cell) (lo hi : Nat) (f : Nat → Value) : Prop := A'.cls = A.cls ∧ A'.vm = A.vm ∧ A'.slots.size = A.slots.size ∧ ∀ i, A'.slots[i]? = if lo ≤ i ∧ i < hi then some (f i) else A.slots[i]?
theorem Laid.zero (A : Cell) (lo : Nat) (f : Nat → Value) : Laid A A lo (lo + 0) f := ⟨rfl, rfl, rfl, fun i => by rw [if_neg (by omega)]⟩
theorem Laid.step {A Ak : Cell} {lo k : Nat} {f : Nat → Value} {v : Value} (h : Laid A Ak lo k f) (hlo : lo ≤ k) (hk : k < Ak.slots.size) (hv : v = f k) : Laid A (Ak.setSlot k v) lo (k + 1) f := by
  refine ⟨h.1, h.2.1, by simpa [Cell.setSlot] using h.2.2.1, fun i => ?_⟩
  by_cases e : k = i
  · subst e; rw [Cell.slots_setSlot_self v hk, if_pos (by omega), hv]
  · rw [Cell.slots_setSlot_ne v e, h.2.2.2 i]
    by_cases q : lo ≤ i ∧ i < k
    · rw [if_pos q, if_pos (by omega)]
    · rw [if_neg q, if_neg (by omega)]
def U16 : String := "java/lang/StringUTF16"
namespace Cmp5
def yN : MethodName := ⟨"java/lang/StringUTF16", "compress", "([CI[BII)I"⟩
abbrev yB : ByteArray := jdk_52_method_21_code
theorem d0 : decode yB 0 = .ok (.iconst 0, 1) := by decide +kernel
theorem d1 : decode yB 1 = .ok (.istore 5, 2) := by decide +kernel
theorem d3 : decode yB 3 = .ok (.iload 5, 2) := by decide +kernel
theorem d5 : decode yB 5 = .ok (.iload 4, 2) := by decide +kernel
theorem d7 : decode yB 7 = .ok (.if_icmp (.ge) 37, 3) := by decide +kernel
theorem d10 : decode yB 10 = .ok (.aload_n 0, 1) := by decide +kernel
theorem d11 : decode yB 11 = .ok (.iload_n 1, 1) := by decide +kernel
theorem d12 : decode yB 12 = .ok (.caload, 1) := by decide +kernel
theorem d13 : decode yB 13 = .ok (.istore 6, 2) := by decide +kernel
theorem d15 : decode yB 15 = .ok (.iload 6, 2) := by decide +kernel
theorem d17 : decode yB 17 = .ok (.sipush 255, 3) := by decide +kernel
theorem d20 : decode yB 20 = .ok (.if_icmp (.le) 6, 3) := by decide +kernel
theorem d26 : decode yB 26 = .ok (.aload_n 2, 1) := by decide +kernel
theorem d27 : decode yB 27 = .ok (.iload_n 3, 1) := by decide +kernel
theorem d28 : decode yB 28 = .ok (.iload 6, 2) := by decide +kernel
theorem d30 : decode yB 30 = .ok (.i2b, 1) := by decide +kernel
theorem d31 : decode yB 31 = .ok (.bastore, 1) := by decide +kernel
theorem d32 : decode yB 32 = .ok (.iinc 1 1, 3) := by decide +kernel
theorem d35 : decode yB 35 = .ok (.iinc 3 1, 3) := by decide +kernel
theorem d38 : decode yB 38 = .ok (.iinc 5 1, 3) := by decide +kernel
theorem d41 : decode yB 41 = .ok (.goto (-38), 3) := by decide +kernel
theorem d44 : decode yB 44 = .ok (.iload 4, 2) := by decide +kernel
theorem d46 : decode yB 46 = .ok (.ireturn, 1) := by decide +kernel
def site : List Cond := []
def tab : Cond := tabOf yN yB 7 (some .int) site
def P (b : Addr) (A : Cell) (d : Addr) (B : Cell) (o q len : Nat) (args : Array Value) (s : State) : Prop := args = #[.ref b, .int (Int32.ofNat o), .ref d, .int (Int32.ofNat q), .int (Int32.ofNat len)] ∧ Ch b A s ∧ Arr .byte d B s ∧ b ≠ d ∧ o + len ≤ A.slots.size ∧ q + len ≤ B.slots.size ∧ ∀ i, i < len → ¬ 255 < cv A (o + i)
def E (b : Addr) (A : Cell) (d : Addr) (B : Cell) (o q len : Nat) (r : Option Value) (s u : State) : Prop := r = some (.int (Int32.ofNat len)) ∧ ∃ B', Put d B' s u ∧ Laid B B' q (q + len) (fun j => Value.int (lo8 (cv A (o + (j - q)))))
/-- no char of the range above 255: len; the places written hold each char's low byte -/
theorem law (l : Launch) (b : Addr) (A : Cell) (d : Addr) (B : Cell) (o q len : Nat) : Law l yN 5 5 0 0 yB 7 (some .int) site (P b A d B o q len) (E b A d B o q len) (copyLocs d q len) 0 0 := by
  refine Law.of_walk (plainFor_of_name (by decide +kernel)) (by decide +kernel) (by decide +kernel) (by decide) (fun _ _ h => by rw [h.1]; rfl) (fun _ U U' hal hh h => ⟨h.1, h.2.1.mv hal hh, h.2.2.1.mv hal hh, h.2.2.2⟩) (fun r U U' V V' h1 hal h2 h => ⟨h.1, h.2.elim fun B' q => ⟨B', q.1.mv h1 h2, q.2⟩⟩) ?_
  intro p e s m args below meth c s₁ X0 hexec hbytes hml hret hlk hnm hown hh0 W hP
  obtain ⟨rfl, hA, hB, hne, l1, l2, hp⟩ := hP
  have c1 : Steps p.tables e below (s₁.setTop (entryFrame m #[.ref b, .int (Int32.ofNat o), .ref d, .int (Int32.ofNat q), .int (Int32.ofNat len)] 7)) (s₁.setTop (mkF m 0 #[.val (.ref b), .val (.int (Int32.ofNat o)), .val (.ref d), .val (.int (Int32.ofNat q)), .val (.int (Int32.ofNat len)), .unset, .unset] [])) := entry rfl
  have hA0 := hA.1.mv X0.warmed.alike hh0
  have hB0 := hB.mv X0.warmed.alike hh0
  have a31 := hA.1.2.2.2
  have c2 : Steps p.tables e below (s₁.setTop (entryFrame m #[.ref b, .int (Int32.ofNat o), .ref d, .int (Int32.ofNat q), .int (Int32.ofNat len)] 7)) (s₁.setTop (mkF m 3 #[.val (.ref b), .val (.int (Int32.ofNat o)), .val (.ref d), .val (.int (Int32.ofNat q)), .val (.int (Int32.ofNat len)), .val (.int 0), .unset] [])) := c1.trans (by
    refine iconstV X0.here hexec rfl 0 (hb hbytes d0) (by decide) ?_
    refine XS.istore X0.here hexec rfl (hb hbytes d1) rfl rfl ?_
    exact Steps.refl _)
  have loop : ∀ (r i : Nat), i + r = len → ∀ (z : Slot), (z = .unset ∨ ∃ w, z = .val w ∧ w.category = 1) → ∀ (Tl : State) (Bk : Cell), Stand p l e { frames := 0, locals := 0, cells := 0, slots := 0 } s m #[.ref b, .int (Int32.ofNat o), .ref d, .int (Int32.ofNat q), .int (Int32.ofNat len)] below meth c Tl ([] ++ copyLocs d q i) 0 0 → Put d Bk s₁ Tl → Laid B Bk q (q + i) (fun j => Value.int (lo8 (cv A (o + (j - q))))) →
      Steps p.tables e below (s₁.setTop (entryFrame m #[.ref b, .int (Int32.ofNat o), .ref d, .int (Int32.ofNat q), .int (Int32.ofNat len)] 7)) (Tl.setTop (mkF m 3 #[.val (.ref b), .val (.int (Int32.ofNat (o + i))), .val (.ref d), .val (.int (Int32.ofNat (q + i))), .val (.int (Int32.ofNat len)), .val (.int (Int32.ofNat i)), z] [])) → ∃ (T' : State) (B' : Cell) (z' : Slot), Stand p l e { frames := 0, locals := 0, cells := 0, slots := 0 } s m #[.ref b, .int (Int32.ofNat o), .ref d, .int (Int32.ofNat q), .int (Int32.ofNat len)] below meth c T' ([] ++ copyLocs d q len) 0 0 ∧ Put d B' s₁ T' ∧ Laid B B' q (q + len) (fun j => Value.int (lo8 (cv A (o + (j - q))))) ∧
      Steps p.tables e below (s₁.setTop (entryFrame m #[.ref b, .int (Int32.ofNat o), .ref d, .int (Int32.ofNat q), .int (Int32.ofNat len)] 7)) (T'.setTop (mkF m 3 #[.val (.ref b), .val (.int (Int32.ofNat (o + len))), .val (.ref d), .val (.int (Int32.ofNat (q + len))), .val (.int (Int32.ofNat len)), .val (.int (Int32.ofNat len)), z'] [])) := by
    intro r
    induction r with
    | zero =>
      intro i hi z hz Tl Bk Xl pl fl cl
      have hil : i = len := by omega
      rw [hil] at Xl fl cl
      exact ⟨Tl, Bk, z, Xl, pl, fl, cl⟩
    | succ r ih =>
      intro i hi z hz Tl Bk Xl pl fl cl
      have all := X0.warmed.alike.symm.trans Xl.warmed.alike
      have hAl := hA0.keep all (pl.other hne hA0.1)
      have hBk := hB0.like all pl.1 fl.1 fl.2.1 fl.2.2.1
      have hlt : q + i < Bk.slots.size := by rw [fl.2.2.1]; omega
      have c3 : Steps p.tables e below (s₁.setTop (entryFrame m #[.ref b, .int (Int32.ofNat o), .ref d, .int (Int32.ofNat q), .int (Int32.ofNat len)] 7)) (Tl.setTop (mkF m 12 #[.val (.ref b), .val (.int (Int32.ofNat (o + i))), .val (.ref d), .val (.int (Int32.ofNat (q + i))), .val (.int (Int32.ofNat len)), .val (.int (Int32.ofNat i)), z] [.int (Int32.ofNat (o + i)), .ref b])) := cl.trans (by
        refine XS.iload Xl.here hexec rfl (hb hbytes d3) rfl ?_
        refine XS.iload Xl.here hexec rfl (hb hbytes d5) rfl ?_
        refine XS.icmpNo Xl.here hexec rfl (hb hbytes d7) rfl (ii_ge_f (lt32 (by omega) (by omega))) ?_
        refine XS.aloadN Xl.here hexec rfl (hb hbytes d10) rfl rfl ?_
        refine XS.iloadN Xl.here hexec rfl (hb hbytes d11) rfl ?_
        exact Steps.refl _)
      have c4 : Steps p.tables e below (s₁.setTop (entryFrame m #[.ref b, .int (Int32.ofNat o), .ref d, .int (Int32.ofNat q), .int (Int32.ofNat len)] 7)) (Tl.setTop (mkF m 13 #[.val (.ref b), .val (.int (Int32.ofNat (o + i))), .val (.ref d), .val (.int (Int32.ofNat (q + i))), .val (.int (Int32.ofNat len)), .val (.int (Int32.ofNat i)), z] [.int (cv A (o + i))])) := c3.trans (by
        refine Xl.aget hexec hAl rfl (hA.get (i := o + i) (by omega)) rfl rfl (hb hbytes d12) ?_
        exact Steps.refl _)
      have c5 : Steps p.tables e below (s₁.setTop (entryFrame m #[.ref b, .int (Int32.ofNat o), .ref d, .int (Int32.ofNat q), .int (Int32.ofNat len)] 7)) (Tl.setTop (mkF m 15 #[.val (.ref b), .val (.int (Int32.ofNat (o + i))), .val (.ref d), .val (.int (Int32.ofNat (q + i))), .val (.int (Int32.ofNat len)), .val (.int (Int32.ofNat i)), .val (.int (cv A (o + i)))] [])) := c4.trans (by
        refine XS.istoreS Xl.here hexec rfl (hb hbytes d13) rfl rfl hz ?_
        exact Steps.refl _)
      have c6 : Steps p.tables e below (s₁.setTop (entryFrame m #[.ref b, .int (Int32.ofNat o), .ref d, .int (Int32.ofNat q), .int (Int32.ofNat len)] 7)) (Tl.setTop (mkF m 31 #[.val (.ref b), .val (.int (Int32.ofNat (o + i))), .val (.ref d), .val (.int (Int32.ofNat (q + i))), .val (.int (Int32.ofNat len)), .val (.int (Int32.ofNat i)), .val (.int (cv A (o + i)))] [.int (lo8 (cv A (o + i))), .int (Int32.ofNat (q + i)), .ref d])) := c5.trans (by
        refine XS.iload Xl.here hexec rfl (hb hbytes d15) rfl ?_
        refine sipushV Xl.here hexec rfl 255 (hb hbytes d17) (by decide) ?_
        refine XS.icmpYes Xl.here hexec rfl (pc0 := 20) rfl (hb hbytes d20) rfl (ii_le_t (hp i (by omega))) (by decide) rfl ?_
        refine XS.aloadN Xl.here hexec rfl (hb hbytes d26) rfl rfl ?_
        refine XS.iloadN Xl.here hexec rfl (hb hbytes d27) rfl ?_
        refine XS.iload Xl.here hexec rfl (hb hbytes d28) rfl ?_
        refine i2b Xl.here hexec rfl (hb hbytes d30) rfl ?_
        exact Steps.refl _)
      obtain ⟨T7, X7, p7, st7⟩ := Xl.aput hexec hBk rfl hlt rfl (fits_lo8 (cv A (o + i))) (g := (mkF m 31 #[.val (.ref b), .val (.int (Int32.ofNat (o + i))), .val (.ref d), .val (.int (Int32.ofNat (q + i))), .val (.int (Int32.ofNat len)), .val (.int (Int32.ofNat i)), .val (.int (cv A (o + i)))] [.int (lo8 (cv A (o + i))), .int (Int32.ofNat (q + i)), .ref d])) rfl (rest := []) rfl (hb hbytes d31)
      have c8 : Steps p.tables e below (s₁.setTop (entryFrame m #[.ref b, .int (Int32.ofNat o), .ref d, .int (Int32.ofNat q), .int (Int32.ofNat len)] 7)) (T7.setTop (mkF m 32 #[.val (.ref b), .val (.int (Int32.ofNat (o + i))), .val (.ref d), .val (.int (Int32.ofNat (q + i))), .val (.int (Int32.ofNat len)), .val (.int (Int32.ofNat i)), .val (.int (cv A (o + i)))] [])) := c6.trans (st7 _ (Steps.refl _))
      have c9 : Steps p.tables e below (s₁.setTop (entryFrame m #[.ref b, .int (Int32.ofNat o), .ref d, .int (Int32.ofNat q), .int (Int32.ofNat len)] 7)) (T7.setTop (mkF m 3 #[.val (.ref b), .val (.int (Int32.ofNat (o + i) + 1)), .val (.ref d), .val (.int (Int32.ofNat (q + i) + 1)), .val (.int (Int32.ofNat len)), .val (.int (Int32.ofNat i + 1)), .val (.int (cv A (o + i)))] [])) := c8.trans (by
        refine iincV X7.here hexec rfl 1 (hb hbytes d32) (by decide) rfl rfl ?_
        refine iincV X7.here hexec rfl 1 (hb hbytes d35) (by decide) rfl rfl ?_
        refine iincV X7.here hexec rfl 1 (hb hbytes d38) (by decide) rfl rfl ?_
        refine XS.goto X7.here hexec rfl (pc0 := 41) rfl (hb hbytes d41) (by decide) rfl ?_
        exact Steps.refl _)
      have c10 : Steps p.tables e below (s₁.setTop (entryFrame m #[.ref b, .int (Int32.ofNat o), .ref d, .int (Int32.ofNat q), .int (Int32.ofNat len)] 7)) (T7.setTop (mkF m 3 #[.val (.ref b), .val (.int (Int32.ofNat (o + (i + 1)))), .val (.ref d), .val (.int (Int32.ofNat (q + (i + 1)))), .val (.int (Int32.ofNat len)), .val (.int (Int32.ofNat (i + 1))), .val (.int (cv A (o + i)))] [])) := by
        have := c9
        rw [succ32, succ32, succ32] at this
        exact this
      exact ih (i + 1) (by omega) _ (Or.inr ⟨_, rfl, rfl⟩) T7 _ (by rw [copyLocs_step, ← List.append_assoc]; exact X7) (pl.trans p7) (fl.step (by omega) hlt (by simp)) c10
  obtain ⟨T9, B9, z9, X9, p9, f9, g9⟩ := loop len 0 (by omega) .unset (Or.inl rfl) s₁ B (by simpa [copyLocs] using X0) ⟨hB0.1, fun _ _ => rfl, rfl⟩ (Laid.zero _ _ _) c2
  have c11 : Steps p.tables e below (s₁.setTop (entryFrame m #[.ref b, .int (Int32.ofNat o), .ref d, .int (Int32.ofNat q), .int (Int32.ofNat len)] 7)) (T9.setTop (mkF m 46 #[.val (.ref b), .val (.int (Int32.ofNat (o + len))), .val (.ref d), .val (.int (Int32.ofNat (q + len))), .val (.int (Int32.ofNat len)), .val (.int (Int32.ofNat len)), z9] [.int (Int32.ofNat len)])) := g9.trans (by
    refine XS.iload X9.here hexec rfl (hb hbytes d3) rfl ?_
    refine XS.iload X9.here hexec rfl (hb hbytes d5) rfl ?_
    refine XS.icmpYes X9.here hexec rfl (pc0 := 7) rfl (hb hbytes d7) rfl (ii_ge_t (nlt32 (by omega) (Nat.le_refl _))) (by decide) rfl ?_
    refine XS.iload X9.here hexec rfl (hb hbytes d44) rfl ?_
    exact Steps.refl _)
  exact ⟨T9, some (.int (Int32.ofNat len)), _, _, _, X9, by simp, rfl, rfl, (fun h => by cases h), ⟨rfl, B9, p9.from hh0, f9⟩, fun fs hl => c11.trans (X9.ireturnOut hexec hret rfl (Or.inl rfl) (hb hbytes d46) hl)⟩
end Cmp5
namespace Cmp3
def yN : MethodName := ⟨"java/lang/StringUTF16", "compress", "([CII)[B"⟩
abbrev yB : ByteArray := jdk_52_method_16_code
theorem d0 : decode yB 0 = .ok (.iload_n 2, 1) := by decide +kernel
theorem d1 : decode yB 1 = .ok (.newarray .byte, 2) := by decide +kernel
theorem d3 : decode yB 3 = .ok (.astore_n 3, 1) := by decide +kernel
theorem d4 : decode yB 4 = .ok (.aload_n 0, 1) := by decide +kernel
theorem d5 : decode yB 5 = .ok (.iload_n 1, 1) := by decide +kernel
theorem d6 : decode yB 6 = .ok (.aload_n 3, 1) := by decide +kernel
theorem d7 : decode yB 7 = .ok (.iconst 0, 1) := by decide +kernel
theorem d8 : decode yB 8 = .ok (.iload_n 2, 1) := by decide +kernel
theorem d9 : decode yB 9 = .ok (.invokestatic 115, 3) := by decide +kernel
theorem d12 : decode yB 12 = .ok (.istore 4, 2) := by decide +kernel
theorem d14 : decode yB 14 = .ok (.iload 4, 2) := by decide +kernel
theorem d16 : decode yB 16 = .ok (.iload_n 2, 1) := by decide +kernel
theorem d17 : decode yB 17 = .ok (.if_icmp (.eq) 40, 3) := by decide +kernel
theorem d57 : decode yB 57 = .ok (.aload_n 3, 1) := by decide +kernel
theorem d58 : decode yB 58 = .ok (.areturn, 1) := by decide +kernel
def site : List Cond := [.arrayClass .byte, Cmp5.tab] ++ staticW U16 115 Cmp5.yN
def tab : Cond := tabOf yN yB 6 (some (.array .byte)) site
def P (b : Addr) (A : Cell) (o len : Nat) (args : Array Value) (s : State) : Prop := args = #[.ref b, .int (Int32.ofNat o), .int (Int32.ofNat len)] ∧ Ch b A s ∧ o + len ≤ A.slots.size ∧ len ≤ 536870912 ∧ ∀ i, i < len → ¬ 255 < cv A (o + i)
def E (b : Addr) (A : Cell) (o len : Nat) (r : Option Value) (s u : State) : Prop := NewArr .byte "[B" len (fun j => .int (lo8 (cv A (o + j)))) r s u ∧ u.heap.size = s.heap.size + 1
/-- no char of the range above 255: a new byte[] of their low bytes -/
theorem law (l : Launch) (b : Addr) (A : Cell) (o len : Nat) : Law l yN 3 3 1 18 yB 6 (some (.array .byte)) site (P b A o len) (E b A o len) [] 1 len := by
  refine Law.of_walk (plainFor_of_name (by decide +kernel)) (by decide +kernel) (by decide +kernel) (by decide) (fun _ _ h => by rw [h.1]; rfl) (fun _ U U' hal hh h => ⟨h.1, h.2.1.mv hal hh, h.2.2⟩) (fun r U U' V V' h1 hal h2 h => ⟨NewArr.mv r U U' V V' h1 hal h2 h.1, by rw [h1, h2]; exact h.2⟩) ?_
  intro p e s m args below meth c s₁ X0 hexec hbytes hml hret hlk hnm hown hh0 W hP
  obtain ⟨rfl, hA, l1, l2, hp⟩ := hP
  have a31 := hA.1.2.2.2
  have c1 : Steps p.tables e below (s₁.setTop (entryFrame m #[.ref b, .int (Int32.ofNat o), .int (Int32.ofNat len)] 6)) (s₁.setTop (mkF m 0 #[.val (.ref b), .val (.int (Int32.ofNat o)), .val (.int (Int32.ofNat len)), .unset, .unset, .unset] [])) := entry rfl
  have c2 : Steps p.tables e below (s₁.setTop (entryFrame m #[.ref b, .int (Int32.ofNat o), .int (Int32.ofNat len)] 6)) (s₁.setTop (mkF m 1 #[.val (.ref b), .val (.int (Int32.ofNat o)), .val (.int (Int32.ofNat len)), .unset, .unset, .unset] [.int (Int32.ofNat len)])) := c1.trans (by
    refine XS.iloadN X0.here hexec rfl (hb hbytes d0) rfl ?_
    exact Steps.refl _)
  obtain ⟨T3, B3, X3, ba3, bs3, bv3, bh3, bf3, st3⟩ := X0.anew hexec (atype := .byte) (wk W (.arrayClass .byte)) rfl (by show len * 1 ≤ _; omega) (by omega) (g := (mkF m 1 #[.val (.ref b), .val (.int (Int32.ofNat o)), .val (.int (Int32.ofNat len)), .unset, .unset, .unset] [.int (Int32.ofNat len)])) rfl (hb hbytes d1) (rest := []) rfl (Nat.le_refl _) (by show 0 + len ≤ len; omega)
  rw [hh0] at ba3 st3
  have kp3 : XT.Kept s T3 := (XT.Kept.of_eq hh0).push bh3
  have hA3 := hA.keep X3.warmed.alike (kp3 _ _ hA.1.1)
  have hne : b ≠ s.heap.size := hA.1.ne
  have c4 : Steps p.tables e below (s₁.setTop (entryFrame m #[.ref b, .int (Int32.ofNat o), .int (Int32.ofNat len)] 6)) (T3.setTop (mkF m 3 #[.val (.ref b), .val (.int (Int32.ofNat o)), .val (.int (Int32.ofNat len)), .unset, .unset, .unset] [.ref s.heap.size])) := c2.trans (st3 _ (Steps.refl _))
  have c5 : Steps p.tables e below (s₁.setTop (entryFrame m #[.ref b, .int (Int32.ofNat o), .int (Int32.ofNat len)] 6)) (T3.setTop (mkF m 9 #[.val (.ref b), .val (.int (Int32.ofNat o)), .val (.int (Int32.ofNat len)), .val (.ref s.heap.size), .unset, .unset] [.int (Int32.ofNat len), .int 0, .ref s.heap.size, .int (Int32.ofNat o), .ref b])) := c4.trans (by
    refine XS.astoreN X3.here hexec rfl (hb hbytes d3) rfl rfl rfl ?_
    refine XS.aloadN X3.here hexec rfl (hb hbytes d4) rfl rfl ?_
    refine XS.iloadN X3.here hexec rfl (hb hbytes d5) rfl ?_
    refine XS.aloadN X3.here hexec rfl (hb hbytes d6) rfl rfl ?_
    refine iconstV X3.here hexec rfl 0 (hb hbytes d7) (by decide) ?_
    refine XS.iloadN X3.here hexec rfl (hb hbytes d8) rfl ?_
    exact Steps.refl _)
  obtain ⟨v6, T6, X6, E6, g6⟩ := X3.callS hexec (Cmp5.law l b A s.heap.size B3 o 0 len) hown (wks W (staticW U16 115 Cmp5.yN)) (wk W Cmp5.tab) (W := 0) (Nat.le_of_ble_eq_true rfl) (Nat.le_of_ble_eq_true rfl) (Nat.le_refl _) (by show 0 + len + 0 ≤ len; omega) (g := (mkF m 9 #[.val (.ref b), .val (.int (Int32.ofNat o)), .val (.int (Int32.ofNat len)), .val (.ref s.heap.size), .unset, .unset] [.int (Int32.ofNat len), .int (Int32.ofNat 0), .ref s.heap.size, .int (Int32.ofNat o), .ref b])) rfl (by rw [hml]; rfl) c5 (argsL := [.ref b, .int (Int32.ofNat o), .ref s.heap.size, .int (Int32.ofNat 0), .int (Int32.ofNat len)]) (rest := []) rfl rfl (by show 2 * 0 + 0 ≤ _; decide) (hb hbytes d9) (⟨rfl, hA3, ba3, hne, l1, by rw [bs3]; simp, hp⟩)
  obtain ⟨rfl, B6, p6, f6⟩ := E6
  have c7 : Steps p.tables e below (s₁.setTop (entryFrame m #[.ref b, .int (Int32.ofNat o), .int (Int32.ofNat len)] 6)) (T6.setTop (mkF m 12 #[.val (.ref b), .val (.int (Int32.ofNat o)), .val (.int (Int32.ofNat len)), .val (.ref s.heap.size), .unset, .unset] [.int (Int32.ofNat len)])) := g6
  have c8 : Steps p.tables e below (s₁.setTop (entryFrame m #[.ref b, .int (Int32.ofNat o), .int (Int32.ofNat len)] 6)) (T6.setTop (mkF m 58 #[.val (.ref b), .val (.int (Int32.ofNat o)), .val (.int (Int32.ofNat len)), .val (.ref s.heap.size), .val (.int (Int32.ofNat len)), .unset] [.ref s.heap.size])) := c7.trans (by
    refine XS.istore X6.here hexec rfl (hb hbytes d12) rfl rfl ?_
    refine XS.iload X6.here hexec rfl (hb hbytes d14) rfl ?_
    refine XS.iloadN X6.here hexec rfl (hb hbytes d16) rfl ?_
    refine XS.icmpYes X6.here hexec rfl (pc0 := 17) rfl (hb hbytes d17) rfl (ii_eq_t rfl) (by decide) rfl ?_
    refine XS.aloadN X6.here hexec rfl (hb hbytes d57) rfl rfl ?_
    exact Steps.refl _)
  have X8 := X6.wide (L' := []) (cells' := 1) (slots' := len) (fun x hx hlt => by
    simp only [List.nil_append, copyLocs, List.mem_map, List.mem_range] at hx
    obtain ⟨i, -, rfl⟩ := hx
    exact absurd hlt (Nat.lt_irrefl _)) (Nat.le_refl _) (by omega)
  exact ⟨T6, some (.ref s.heap.size), _, _, _, X8, rfl, rfl, rfl, (fun h => by cases h), ⟨⟨rfl, B6, ba3.like (X3.warmed.alike.symm.trans X6.warmed.alike) p6.1 f6.1 f6.2.1 f6.2.2.1, f6.2.1.trans bv3, by rw [X6.warmed.alike.findClass, f6.1]; exact bf3, by rw [f6.2.2.1, bs3]; simp, fun j hj => by rw [f6.2.2.2 j, if_pos (by omega)]; rfl, kp3.put p6 (Nat.le_refl _)⟩, by rw [p6.2.2, bh3, hh0]; simp⟩, fun fs hl => c8.trans (X8.areturnOut hexec rfl hret rfl (hb hbytes d58) hl)⟩
end Cmp3
namespace CodL
def yN : MethodName := ⟨"java/lang/StringUTF16", "coderFromArrayLen", "([BI)B"⟩
abbrev yB : ByteArray := jdk_52_method_15_code
theorem d0 : decode yB 0 = .ok (.iload_n 1, 1) := by decide +kernel
theorem d1 : decode yB 1 = .ok (.aload_n 0, 1) := by decide +kernel
theorem d2 : decode yB 2 = .ok (.arraylength, 1) := by decide +kernel
theorem d3 : decode yB 3 = .ok (.isub, 1) := by decide +kernel
theorem d4 : decode yB 4 = .ok (.bipush 31, 2) := by decide +kernel
theorem d6 : decode yB 6 = .ok (.iushr, 1) := by decide +kernel
theorem d7 : decode yB 7 = .ok (.i2b, 1) := by decide +kernel
theorem d8 : decode yB 8 = .ok (.ireturn, 1) := by decide +kernel
def site : List Cond := []
def tab : Cond := tabOf yN yB 2 (some .byte) site
def P (d : Addr) (B : Cell) (args : Array Value) (s : State) : Prop := args = #[.ref d, .int (Int32.ofNat B.slots.size)] ∧ Arr .byte d B s
def E (r : Option Value) (s u : State) : Prop := XT.PureE (some (.int 0)) r s u
/-- an array as long as the number of chars: LATIN1 -/
theorem law (l : Launch) (d : Addr) (B : Cell) : Law l yN 2 2 0 0 yB 2 (some .byte) site (P d B) E [] 0 0 := by
  refine Law.of_walk (plainFor_of_name (by decide +kernel)) (by decide +kernel) (by decide +kernel) (by decide) (fun _ _ h => by rw [h.1]; rfl) (fun _ U U' hal hh h => ⟨h.1, h.2.mv hal hh⟩) (fun r U U' V V' h1 hal h2 h => XT.PureE.mv r U U' V V' h1 hal h2 h) ?_
  intro p e s m args below meth c s₁ X0 hexec hbytes hml hret hlk hnm hown hh0 W hP
  obtain ⟨rfl, hB⟩ := hP
  have hB0 := hB.mv X0.warmed.alike hh0
  have c1 : Steps p.tables e below (s₁.setTop (entryFrame m #[.ref d, .int (Int32.ofNat B.slots.size)] 2)) (s₁.setTop (mkF m 0 #[.val (.ref d), .val (.int (Int32.ofNat B.slots.size))] [])) := entry rfl
  have c2 : Steps p.tables e below (s₁.setTop (entryFrame m #[.ref d, .int (Int32.ofNat B.slots.size)] 2)) (s₁.setTop (mkF m 2 #[.val (.ref d), .val (.int (Int32.ofNat B.slots.size))] [.ref d, .int (Int32.ofNat B.slots.size)])) := c1.trans (by
    refine XS.iloadN X0.here hexec rfl (hb hbytes d0) rfl ?_
    refine XS.aloadN X0.here hexec rfl (hb hbytes d1) rfl rfl ?_
    exact Steps.refl _)
  have c3 : Steps p.tables e below (s₁.setTop (entryFrame m #[.ref d, .int (Int32.ofNat B.slots.size)] 2)) (s₁.setTop (mkF m 8 #[.val (.ref d), .val (.int (Int32.ofNat B.slots.size))] [.int (lo8 (ushr (Int32.ofNat B.slots.size - Int32.ofNat B.slots.size) 31))])) := c2.trans (by
    refine X0.alen hexec hB0 rfl rfl (hb hbytes d2) ?_
    refine XS.isub X0.here hexec rfl (hb hbytes d3) rfl ?_
    refine bipushV X0.here hexec rfl 31 (hb hbytes d4) (by decide) ?_
    refine iushr X0.here hexec rfl (hb hbytes d6) rfl ?_
    refine i2b X0.here hexec rfl (hb hbytes d7) rfl ?_
    exact Steps.refl _)
  have e0 : lo8 (ushr (Int32.ofNat B.slots.size - Int32.ofNat B.slots.size) 31) = 0 := by rw [Int32.sub_self]; decide
  rw [e0] at c3
  exact ⟨s₁, some (.int 0), _, _, _, X0, rfl, rfl, rfl, (fun h => by cases h), ⟨rfl, hh0⟩, fun fs hl => c3.trans (X0.ireturnOut hexec hret rfl (Or.inr (Or.inr (Or.inl rfl))) (hb hbytes d8) hl)⟩
end CodL
/-- the String at a is Latin-1 over a new byte[] (the heap's one new cell): the low bytes of the len chars of A from o on; every cell but a is kept -/
def Got (a : Addr) (D : Cell) (fV fC : Field) (A : Cell) (o len : Nat) (r : Option Value) (s u : State) : Prop := r = none ∧ ∃ D' V : Cell, Blank "java/lang/String" a D' u ∧ Same D D' [fV.slot, fC.slot] ∧ D'.slots[fV.slot]? = some (.ref s.heap.size) ∧ D'.slots[fC.slot]? = some (.int 0) ∧ Arr .byte s.heap.size V u ∧ V.vm = .none ∧ u.vm.findClass "[B" = some V.cls ∧ V.slots.size = len ∧ (∀ j, j < len → V.slots[j]? = some (.int (lo8 (cv A (o + j))))) ∧ (∀ (y : Addr) (c : Cell), y ≠ a → s.heap[y]? = some c → u.heap[y]? = some c) ∧ u.heap.size = s.heap.size + 1
theorem Got.mv {a : Addr} {D A : Cell} {fV fC : Field} {o len : Nat} : ∀ r (U U' V V' : State), U'.heap = U.heap → V.vm.Alike V'.vm → V'.heap = V.heap → Got a D fV fC A o len r U V → Got a D fV fC A o len r U' V' :=
  fun r U U' V V' h1 hal h2 ⟨e0, D', X, a1, a2, a3, a4, a5, a6, a7, a8, a9, a10, a11⟩ => ⟨e0, D', X, a1.mv hal h2, a2, by rw [h1]; exact a3, a4, by rw [h1]; exact a5.mv hal h2, a6, by rw [hal.findClass]; exact a7, a8, a9, by rw [h1, h2]; exact a10, by rw [h1, h2]; exact a11⟩
namespace New4
def yN : MethodName := ⟨"java/lang/String", "<init>", "([CIILjava/lang/Void;)V"⟩
abbrev yB : ByteArray := jdk_42_method_149_code
theorem d0 : decode yB 0 = .ok (.aload_n 0, 1) := by decide +kernel
theorem d1 : decode yB 1 = .ok (.invokespecial 1, 3) := by decide +kernel
theorem d4 : decode yB 4 = .ok (.iload_n 3, 1) := by decide +kernel
theorem d5 : decode yB 5 = .ok (.ifCond (.ne) 22, 3) := by decide +kernel
theorem d27 : decode yB 27 = .ok (.getstatic 38, 3) := by decide +kernel
theorem d30 : decode yB 30 = .ok (.ifCond (.eq) 28, 3) := by decide +kernel
theorem d33 : decode yB 33 = .ok (.aload_n 1, 1) := by decide +kernel
theorem d34 : decode yB 34 = .ok (.iload_n 2, 1) := by decide +kernel
theorem d35 : decode yB 35 = .ok (.iload_n 3, 1) := by decide +kernel
theorem d36 : decode yB 36 = .ok (.invokestatic 177, 3) := by decide +kernel
theorem d39 : decode yB 39 = .ok (.astore 5, 2) := by decide +kernel
theorem d41 : decode yB 41 = .ok (.aload_n 0, 1) := by decide +kernel
theorem d42 : decode yB 42 = .ok (.aload 5, 2) := by decide +kernel
theorem d44 : decode yB 44 = .ok (.iload_n 3, 1) := by decide +kernel
theorem d45 : decode yB 45 = .ok (.invokestatic 47, 3) := by decide +kernel
theorem d48 : decode yB 48 = .ok (.putfield 15, 3) := by decide +kernel
theorem d51 : decode yB 51 = .ok (.aload_n 0, 1) := by decide +kernel
theorem d52 : decode yB 52 = .ok (.aload 5, 2) := by decide +kernel
theorem d54 : decode yB 54 = .ok (.putfield 9, 3) := by decide +kernel
theorem d57 : decode yB 57 = .ok (.return_, 1) := by decide +kernel
def site : List Cond := [.fieldLink "java/lang/String" 38 "java/lang/String" "COMPACT_STRINGS" "Z", Cmp3.tab, CodL.tab, .laysFinal "java/lang/String" "java/lang/String" "value" "[B", .fieldLink "java/lang/String" 9 "java/lang/String" "value" "[B", .laysFinal "java/lang/String" "java/lang/String" "coder" "B", .fieldLink "java/lang/String" 15 "java/lang/String" "coder" "B"] ++ objW "java/lang/String" 1 ++ staticW "java/lang/String" 177 Cmp3.yN ++ staticW "java/lang/String" 47 CodL.yN
def tab : Cond := tabOf yN yB 6 none site
def P (a : Addr) (D : Cell) (fV fC : Field) (b : Addr) (A : Cell) (z : Int32) (o len : Nat) (args : Array Value) (s : State) : Prop := args = #[.ref a, .ref b, .int (Int32.ofNat o), .int (Int32.ofNat len), .null] ∧ Blank "java/lang/String" a D s ∧ Found "java/lang/String" "value" "[B" fV s ∧ Found "java/lang/String" "coder" "B" fC s ∧ Ch b A s ∧ StaticIs s "java/lang/String" "COMPACT_STRINGS" "Z" (.int z) ∧ ¬ z = 0 ∧ 0 < len ∧ o + len ≤ A.slots.size ∧ len ≤ 536870912 ∧ ∀ i, i < len → ¬ 255 < cv A (o + i)
def E (a : Addr) (D : Cell) (fV fC : Field) (A : Cell) (o len : Nat) (r : Option Value) (s u : State) : Prop := Got a D fV fC A o len r s u
/-- len > 0, no char of the range above 255: a Latin-1 String of their low bytes -/
theorem law (l : Launch) (a : Addr) (D : Cell) (fV fC : Field) (b : Addr) (A : Cell) (z : Int32) (o len : Nat) : Law l yN 5 4 2 35 yB 6 none site (P a D fV fC b A z o len) (E a D fV fC A o len) [⟨a, fC.slot⟩, ⟨a, fV.slot⟩] 1 len := by
  refine Law.of_walk (plainFor_of_name (by decide +kernel)) (by decide +kernel) (by decide +kernel) (by decide) (fun _ _ h => by rw [h.1]; rfl) (fun _ U U' hal hh h => ⟨h.1, h.2.1.mv hal hh, h.2.2.1.al hal, h.2.2.2.1.al hal, h.2.2.2.2.1.mv hal hh, h.2.2.2.2.2.1.there hal hh, h.2.2.2.2.2.2⟩) (fun r U U' V V' h1 hal h2 h => Got.mv r U U' V V' h1 hal h2 h) ?_
  intro p e s m args below meth c s₁ X0 hexec hbytes hml hret hlk hnm hown hh0 W hP
  obtain ⟨rfl, hB, f1, f2, hA, s1, hz, l0, l1, l2, hp⟩ := hP
  have a31 := hA.1.2.2.2
  have c1 : Steps p.tables e below (s₁.setTop (entryFrame m #[.ref a, .ref b, .int (Int32.ofNat o), .int (Int32.ofNat len), .null] 6)) (s₁.setTop (mkF m 0 #[.val (.ref a), .val (.ref b), .val (.int (Int32.ofNat o)), .val (.int (Int32.ofNat len)), .val .null, .unset] [])) := entry rfl
  have c2 : Steps p.tables e below (s₁.setTop (entryFrame m #[.ref a, .ref b, .int (Int32.ofNat o), .int (Int32.ofNat len), .null] 6)) (s₁.setTop (mkF m 1 #[.val (.ref a), .val (.ref b), .val (.int (Int32.ofNat o)), .val (.int (Int32.ofNat len)), .val .null, .unset] [.ref a])) := c1.trans (by
    refine XS.aloadN X0.here hexec rfl (hb hbytes d0) rfl rfl ?_
    exact Steps.refl _)
  obtain ⟨T3, X3, q3, st3⟩ := X0.oinit hexec hown (wks W (objW "java/lang/String" 1)) (g := (mkF m 1 #[.val (.ref a), .val (.ref b), .val (.int (Int32.ofNat o)), .val (.int (Int32.ofNat len)), .val .null, .unset] [.ref a])) rfl (by rw [hml]; rfl) (rest := []) rfl (hb hbytes d1) (W := 0) (by show 2 * 0 + 0 ≤ _; decide) (Nat.le_of_ble_eq_true rfl) (Nat.le_of_ble_eq_true rfl)
  have hh3 := q3.trans hh0
  have c4 : Steps p.tables e below (s₁.setTop (entryFrame m #[.ref a, .ref b, .int (Int32.ofNat o), .int (Int32.ofNat len), .null] 6)) (T3.setTop (mkF m 27 #[.val (.ref a), .val (.ref b), .val (.int (Int32.ofNat o)), .val (.int (Int32.ofNat len)), .val .null, .unset] [])) := (c2.trans (st3 _ (Steps.refl _))).trans (by
    refine XS.iloadN X3.here hexec rfl (hb hbytes d4) rfl ?_
    refine XS.ifYes X3.here hexec rfl (pc0 := 5) rfl (hb hbytes d5) rfl (i0_ne_t (nz32 (by omega) l0)) (by decide) rfl ?_
    exact Steps.refl _)
  obtain ⟨T5, X5, q5, st5⟩ := X3.sget hexec hown (wk W (.fieldLink "java/lang/String" 38 "java/lang/String" "COMPACT_STRINGS" "Z")) s1 (fun _ _ h => by rw [hh3]; exact h) (g := (mkF m 27 #[.val (.ref a), .val (.ref b), .val (.int (Int32.ofNat o)), .val (.int (Int32.ofNat len)), .val .null, .unset] [])) rfl (hb hbytes d27)
  have hh5 := q5.trans hh3
  have c6 : Steps p.tables e below (s₁.setTop (entryFrame m #[.ref a, .ref b, .int (Int32.ofNat o), .int (Int32.ofNat len), .null] 6)) (T5.setTop (mkF m 30 #[.val (.ref a), .val (.ref b), .val (.int (Int32.ofNat o)), .val (.int (Int32.ofNat len)), .val .null, .unset] [.int z])) := c4.trans (st5 _ (Steps.refl _))
  have c7 : Steps p.tables e below (s₁.setTop (entryFrame m #[.ref a, .ref b, .int (Int32.ofNat o), .int (Int32.ofNat len), .null] 6)) (T5.setTop (mkF m 36 #[.val (.ref a), .val (.ref b), .val (.int (Int32.ofNat o)), .val (.int (Int32.ofNat len)), .val .null, .unset] [.int (Int32.ofNat len), .int (Int32.ofNat o), .ref b])) := c6.trans (by
    refine XS.ifNo X5.here hexec rfl (hb hbytes d30) rfl (i0_eq_f hz) ?_
    refine XS.aloadN X5.here hexec rfl (hb hbytes d33) rfl rfl ?_
    refine XS.iloadN X5.here hexec rfl (hb hbytes d34) rfl ?_
    refine XS.iloadN X5.here hexec rfl (hb hbytes d35) rfl ?_
    exact Steps.refl _)
  obtain ⟨v8, T8, X8, E8, g8⟩ := X5.callS hexec (Cmp3.law l b A o len) hown (wks W (staticW "java/lang/String" 177 Cmp3.yN)) (wk W Cmp3.tab) (W := 0) (Nat.le_of_ble_eq_true rfl) (Nat.le_of_ble_eq_true rfl) (Nat.le_refl _) (by show 0 + len ≤ len; omega) (g := (mkF m 36 #[.val (.ref a), .val (.ref b), .val (.int (Int32.ofNat o)), .val (.int (Int32.ofNat len)), .val .null, .unset] [.int (Int32.ofNat len), .int (Int32.ofNat o), .ref b])) rfl (by rw [hml]; rfl) c7 (argsL := [.ref b, .int (Int32.ofNat o), .int (Int32.ofNat len)]) (rest := []) rfl rfl (by show 2 * 0 + 0 ≤ _; decide) (hb hbytes d36) (⟨rfl, hA.mv X5.warmed.alike hh5, l1, l2, hp⟩)
  obtain ⟨e8, z8⟩ := E8
  obtain ⟨rfl, N, n1, n2, n3, n4, n5, n6⟩ := NewArr.mv _ T5 s _ _ hh5.symm (Vm.Alike.refl _) rfl e8
  rw [hh5] at z8
  have hB1 := hB.keep X8.warmed.alike (n6 _ _ hB.1)
  have hne : s.heap.size ≠ a := (Nat.ne_of_lt (Array.getElem?_eq_some_iff.mp hB.1).1).symm
  have c9 : Steps p.tables e below (s₁.setTop (entryFrame m #[.ref a, .ref b, .int (Int32.ofNat o), .int (Int32.ofNat len), .null] 6)) (T8.setTop (mkF m 39 #[.val (.ref a), .val (.ref b), .val (.int (Int32.ofNat o)), .val (.int (Int32.ofNat len)), .val .null, .unset] [.ref s.heap.size])) := g8
  have c10 : Steps p.tables e below (s₁.setTop (entryFrame m #[.ref a, .ref b, .int (Int32.ofNat o), .int (Int32.ofNat len), .null] 6)) (T8.setTop (mkF m 45 #[.val (.ref a), .val (.ref b), .val (.int (Int32.ofNat o)), .val (.int (Int32.ofNat len)), .val .null, .val (.ref s.heap.size)] [.int (Int32.ofNat N.slots.size), .ref s.heap.size, .ref a])) := by
    have hc : Steps p.tables e below (s₁.setTop (entryFrame m #[.ref a, .ref b, .int (Int32.ofNat o), .int (Int32.ofNat len), .null] 6)) (T8.setTop (mkF m 45 #[.val (.ref a), .val (.ref b), .val (.int (Int32.ofNat o)), .val (.int (Int32.ofNat len)), .val .null, .val (.ref s.heap.size)] [.int (Int32.ofNat len), .ref s.heap.size, .ref a])) := c9.trans (by
      refine XS.astore X8.here hexec rfl (hb hbytes d39) rfl rfl rfl ?_
      refine XS.aloadN X8.here hexec rfl (hb hbytes d41) rfl rfl ?_
      refine XS.aload X8.here hexec rfl (hb hbytes d42) rfl rfl ?_
      refine XS.iloadN X8.here hexec rfl (hb hbytes d44) rfl ?_
      exact Steps.refl _)
    rw [n4]; exact hc
  obtain ⟨v11, T11, X11, E11, g11⟩ := X8.callS hexec (CodL.law l s.heap.size N) hown (wks W (staticW "java/lang/String" 47 CodL.yN)) (wk W CodL.tab) (W := 1) (Nat.le_of_ble_eq_true rfl) (Nat.le_of_ble_eq_true rfl) (Nat.le_refl _) (by show 0 + len + 0 ≤ len; omega) (g := (mkF m 45 #[.val (.ref a), .val (.ref b), .val (.int (Int32.ofNat o)), .val (.int (Int32.ofNat len)), .val .null, .val (.ref s.heap.size)] [.int (Int32.ofNat N.slots.size), .ref s.heap.size, .ref a])) rfl (by rw [hml]; rfl) c10 (argsL := [.ref s.heap.size, .int (Int32.ofNat N.slots.size)]) (rest := [.ref a]) rfl rfl (by show 2 * 0 + (1 + 0) ≤ _; decide) (hb hbytes d45) (⟨rfl, n1⟩)
  obtain ⟨rfl, q11⟩ := E11
  have hB11 := hB1.mv (X8.warmed.alike.symm.trans X11.warmed.alike) q11
  have c12 : Steps p.tables e below (s₁.setTop (entryFrame m #[.ref a, .ref b, .int (Int32.ofNat o), .int (Int32.ofNat len), .null] 6)) (T11.setTop (mkF m 48 #[.val (.ref a), .val (.ref b), .val (.int (Int32.ofNat o)), .val (.int (Int32.ofNat len)), .val .null, .val (.ref s.heap.size)] [.int 0, .ref a])) := g11
  obtain ⟨T13, X13, p13, bl13, sl13, st13⟩ := X11.finit hexec hown (wk W (.fieldLink "java/lang/String" 15 "java/lang/String" "coder" "B")) (Or.inr ⟨_, (wk W (.laysFinal "java/lang/String" "java/lang/String" "coder" "B"))⟩) (Or.inl ⟨rfl, hnm⟩) f2 (Or.inl rfl) hB11 (t := .byte) (by decide +kernel) rfl (g := (mkF m 48 #[.val (.ref a), .val (.ref b), .val (.int (Int32.ofNat o)), .val (.int (Int32.ofNat len)), .val .null, .val (.ref s.heap.size)] [.int 0, .ref a])) rfl (rest := []) rfl (hb hbytes d48)
  have c14 : Steps p.tables e below (s₁.setTop (entryFrame m #[.ref a, .ref b, .int (Int32.ofNat o), .int (Int32.ofNat len), .null] 6)) (T13.setTop (mkF m 54 #[.val (.ref a), .val (.ref b), .val (.int (Int32.ofNat o)), .val (.int (Int32.ofNat len)), .val .null, .val (.ref s.heap.size)] [.ref s.heap.size, .ref a])) := (c12.trans (st13 _ (Steps.refl _))).trans (by
    refine XS.aloadN X13.here hexec rfl (hb hbytes d51) rfl rfl ?_
    refine XS.aload X13.here hexec rfl (hb hbytes d52) rfl rfl ?_
    exact Steps.refl _)
  obtain ⟨T15, X15, p15, bl15, sl15, st15⟩ := X13.finit hexec hown (wk W (.fieldLink "java/lang/String" 9 "java/lang/String" "value" "[B")) (Or.inr ⟨_, (wk W (.laysFinal "java/lang/String" "java/lang/String" "value" "[B"))⟩) (Or.inl ⟨rfl, hnm⟩) f1 (Or.inl rfl) bl13 (t := (.array .byte)) (by decide +kernel) rfl (g := (mkF m 54 #[.val (.ref a), .val (.ref b), .val (.int (Int32.ofNat o)), .val (.int (Int32.ofNat len)), .val .null, .val (.ref s.heap.size)] [.ref s.heap.size, .ref a])) rfl (rest := []) rfl (hb hbytes d54)
  have c16 : Steps p.tables e below (s₁.setTop (entryFrame m #[.ref a, .ref b, .int (Int32.ofNat o), .int (Int32.ofNat len), .null] 6)) (T15.setTop (mkF m 57 #[.val (.ref a), .val (.ref b), .val (.int (Int32.ofNat o)), .val (.int (Int32.ofNat len)), .val .null, .val (.ref s.heap.size)] [])) := c14.trans (st15 _ (Steps.refl _))
  have ap := apart (Or.inr ⟨_, (wk W (.laysFinal "java/lang/String" "java/lang/String" "value" "[B"))⟩) (Or.inr ⟨_, (wk W (.laysFinal "java/lang/String" "java/lang/String" "coder" "B"))⟩) f1 f2 (t₁ := .array .byte) (t₂ := .byte) (by decide +kernel) (by decide +kernel) (by decide)
  have al := X8.warmed.alike.symm.trans X15.warmed.alike
  have n7 : T11.heap[s.heap.size]? = some N := by rw [q11]; exact n1.1
  exact ⟨T15, none, _, _, _, X15, by simp, rfl, by omega, (fun _ => rfl), ⟨rfl, _, N, bl15, ((Same.refl D _).set _ (by simp)).set _ (by simp), sl15, (Cell.slots_setSlot_ne _ ap).trans sl13, n1.keep al (p15.other hne (p13.other hne n7)), n2, by rw [al.findClass]; exact n3, n4, n5, fun y c h1 h2 => p15.other h1 (p13.other h1 (by rw [q11]; exact n6 y c h2)), by rw [p15.2.2, p13.2.2, q11]; exact z8⟩, fun fs hl => c16.trans (X15.returnOut hexec hret (hb hbytes d57) hl)⟩
end New4
namespace New1
def yN : MethodName := ⟨"java/lang/String", "<init>", "([C)V"⟩
abbrev yB : ByteArray := jdk_42_method_3_code
theorem d0 : decode yB 0 = .ok (.aload_n 0, 1) := by decide +kernel
theorem d1 : decode yB 1 = .ok (.aload_n 1, 1) := by decide +kernel
theorem d2 : decode yB 2 = .ok (.iconst 0, 1) := by decide +kernel
theorem d3 : decode yB 3 = .ok (.aload_n 1, 1) := by decide +kernel
theorem d4 : decode yB 4 = .ok (.arraylength, 1) := by decide +kernel
theorem d5 : decode yB 5 = .ok (.aconst_null, 1) := by decide +kernel
theorem d6 : decode yB 6 = .ok (.invokespecial 27, 3) := by decide +kernel
theorem d9 : decode yB 9 = .ok (.return_, 1) := by decide +kernel
def site : List Cond := [New4.tab] ++ initW "java/lang/String" 27 New4.yN
def tab : Cond := tabOf yN yB 2 none site
def P (a : Addr) (D : Cell) (fV fC : Field) (b : Addr) (A : Cell) (z : Int32) (args : Array Value) (s : State) : Prop := args = #[.ref a, .ref b] ∧ Blank "java/lang/String" a D s ∧ Found "java/lang/String" "value" "[B" fV s ∧ Found "java/lang/String" "coder" "B" fC s ∧ Ch b A s ∧ StaticIs s "java/lang/String" "COMPACT_STRINGS" "Z" (.int z) ∧ ¬ z = 0 ∧ 0 < A.slots.size ∧ A.slots.size ≤ 536870912 ∧ ∀ i, i < A.slots.size → ¬ 255 < cv A i
def E (a : Addr) (D : Cell) (fV fC : Field) (A : Cell) (r : Option Value) (s u : State) : Prop := Got a D fV fC A 0 A.slots.size r s u
/-- new String(chars), not empty, no char above 255: a Latin-1 String of their low bytes -/
theorem law (l : Launch) (a : Addr) (D : Cell) (fV fC : Field) (b : Addr) (A : Cell) (z : Int32) : Law l yN 2 1 3 52 yB 2 none site (P a D fV fC b A z) (E a D fV fC A) [⟨a, fC.slot⟩, ⟨a, fV.slot⟩] 1 A.slots.size := by
  refine Law.of_walk (plainFor_of_name (by decide +kernel)) (by decide +kernel) (by decide +kernel) (by decide) (fun _ _ h => by rw [h.1]; rfl) (fun _ U U' hal hh h => ⟨h.1, h.2.1.mv hal hh, h.2.2.1.al hal, h.2.2.2.1.al hal, h.2.2.2.2.1.mv hal hh, h.2.2.2.2.2.1.there hal hh, h.2.2.2.2.2.2⟩) (fun r U U' V V' h1 hal h2 h => Got.mv r U U' V V' h1 hal h2 h) ?_
  intro p e s m args below meth c s₁ X0 hexec hbytes hml hret hlk hnm hown hh0 W hP
  obtain ⟨rfl, hB, f1, f2, hA, s1, hz, l0, l2, hp⟩ := hP
  have c1 : Steps p.tables e below (s₁.setTop (entryFrame m #[.ref a, .ref b] 2)) (s₁.setTop (mkF m 0 #[.val (.ref a), .val (.ref b)] [])) := entry rfl
  have c2 : Steps p.tables e below (s₁.setTop (entryFrame m #[.ref a, .ref b] 2)) (s₁.setTop (mkF m 6 #[.val (.ref a), .val (.ref b)] [.null, .int (Int32.ofNat A.slots.size), .int 0, .ref b, .ref a])) := c1.trans (by
    refine XS.aloadN X0.here hexec rfl (hb hbytes d0) rfl rfl ?_
    refine XS.aloadN X0.here hexec rfl (hb hbytes d1) rfl rfl ?_
    refine iconstV X0.here hexec rfl 0 (hb hbytes d2) (by decide) ?_
    refine XS.aloadN X0.here hexec rfl (hb hbytes d3) rfl rfl ?_
    refine X0.alen hexec (hA.1.mv X0.warmed.alike hh0) rfl rfl (hb hbytes d4) ?_
    refine XS.aconstNull X0.here hexec rfl (hb hbytes d5) ?_
    exact Steps.refl _)
  obtain ⟨v3, T3, X3, E3, g3⟩ := X0.callN hexec (New4.law l a D fV fC b A z 0 A.slots.size) rfl hown (wks W (initW "java/lang/String" 27 New4.yN)) (W New4.tab (by simp only [site, List.mem_cons, List.mem_append, true_or, or_true])) (W := 0) (Nat.le_of_ble_eq_true rfl) (Nat.le_of_ble_eq_true rfl) (Nat.le_refl _) (by show 0 + A.slots.size ≤ A.slots.size; omega) (g := (mkF m 6 #[.val (.ref a), .val (.ref b)] [.null, .int (Int32.ofNat A.slots.size), .int (Int32.ofNat 0), .ref b, .ref a])) rfl (by rw [hml]; rfl) c2 (argsL := [.ref b, .int (Int32.ofNat 0), .int (Int32.ofNat A.slots.size), .null]) (rest := []) rfl rfl (by show 2 * 0 + 0 ≤ _; decide) (hb hbytes d6) (⟨rfl, hB.mv X0.warmed.alike hh0, f1.al X0.warmed.alike, f2.al X0.warmed.alike, hA.mv X0.warmed.alike hh0, s1.there X0.warmed.alike hh0, hz, l0, by omega, l2, fun i hi => by rw [Nat.zero_add]; exact hp i hi⟩)
  have e0 := Got.mv _ s₁ s _ _ hh0.symm (Vm.Alike.refl _) rfl E3
  obtain rfl := e0.1
  have c4 : Steps p.tables e below (s₁.setTop (entryFrame m #[.ref a, .ref b] 2)) (T3.setTop (mkF m 9 #[.val (.ref a), .val (.ref b)] [])) := g3
  exact ⟨T3, none, _, _, _, X3, by simp, rfl, by omega, (fun _ => rfl), e0, fun fs hl => c4.trans (X3.returnOut hexec hret (hb hbytes d9) hl)⟩
theorem pays {l : Launch} {R : Room} {p : Program} {e : Env} {below : List Frame} {s : State} {sargs : Array Value} {len W : Nat} (a : Addr) (D : Cell) (fV fC : Field) (b : Addr) (A : Cell) (z : Int32) (htab : tab.before sargs s = true) (hfr : 4 ≤ R.frames) (hlo : W + 65 ≤ R.locals) :
    Back l R p e below s sargs yN len W (fun A₁ a₁ => A₁.cells + 1 ≤ R.cells ∧ A₁.slots + A.slots.size ≤ R.slots ∧ P a D fV fC b A z a₁ A₁.U) (fun A₁ _ v₁ B₁ => E a D fV fC A v₁ A₁.U B₁.U ∧ B₁.locs = A₁.locs ++ [⟨a, fC.slot⟩, ⟨a, fV.slot⟩] ∧ B₁.cells = A₁.cells + 1 ∧ B₁.slots = A₁.slots + A.slots.size) :=
  (law l a D fV fC b A z).pays htab hfr (by omega)
end New1
/-- the byte, read back as charAt reads it, is the char -/
theorem lo8_mask {x : Int32} (h0 : ¬ x < 0) (h1 : ¬ 255 < x) : lo8 x &&& 255 = x := by
  have t : ∀ k : Fin 256, lo8 (Int32.ofNat k.val) &&& 255 = Int32.ofNat k.val := by decide +kernel
  rw [Int32.lt_iff_toInt_lt] at h0 h1
  have e0 : (0 : Int32).toInt = 0 := rfl
  have e1 : (255 : Int32).toInt = 255 := rfl
  obtain ⟨k, hk⟩ : ∃ k : Nat, x.toInt = k := ⟨x.toInt.toNat, by omega⟩
  have hx : x = Int32.ofNat k := Int32.toInt_inj.mp (by rw [hk, Int32.toInt_ofNat_small (by omega)])
  rw [hx]
  exact t ⟨k, by omega⟩
end StrChars
namespace StrChars.Road
open Jvm Sem ClassFile Op Lib Jvm.Stand Jvm.Free Jvm.Free.XT
open Jvm.Lib.Cold (StaticIs)
abbrev ST : String := "java/lang/String"
/-- every table word that New1's law asks, flat -/
abbrev words : List Jvm.Cond := [.code New1.yN New1.yB 2 none, .initialized ST, .methodLink ST 27 New4.yN, .instanceMethod New4.yN,
  .code New4.yN New4.yB 6 none, .fieldLink ST 38 ST "COMPACT_STRINGS" "Z", .laysFinal ST ST "value" "[B", .fieldLink ST 9 ST "value" "[B", .laysFinal ST ST "coder" "B", .fieldLink ST 15 ST "coder" "B",
  .methodLink ST 1 Lib.objectInit, .instanceMethod Lib.objectInit, .code Lib.objectInit ⟨#[0xb1]⟩ 1 none, .methodLink ST 177 Cmp3.yN, .static Cmp3.yN, .methodLink ST 47 CodL.yN, .static CodL.yN,
  .code Cmp3.yN Cmp3.yB 6 (some (.array .byte)), .initialized U16, .arrayClass .byte, .methodLink U16 115 Cmp5.yN, .static Cmp5.yN, .code Cmp5.yN Cmp5.yB 7 (some .int), .code CodL.yN CodL.yB 2 (some .byte)]
theorem tab_of {a : Array Value} {s : State} (h : ∀ w ∈ words, w.before a s = true) : New1.tab.before a s = true := by
  have h5 : Cmp5.tab.before a s = true := unparts (wk h (.code Cmp5.yN Cmp5.yB 7 (some .int))) (wks h (.initialized Cmp5.yN.cls :: Cmp5.site))
  have hc : CodL.tab.before a s = true := unparts (wk h (.code CodL.yN CodL.yB 2 (some .byte))) (wks h (.initialized CodL.yN.cls :: CodL.site))
  have q5 : ∀ w ∈ Cmp5.tab :: words, w.before a s = true := fun w hw => (List.mem_cons.mp hw).elim (fun e => e ▸ h5) (h w)
  have h3 : Cmp3.tab.before a s = true := unparts (wk q5 (.code Cmp3.yN Cmp3.yB 6 (some (.array .byte)))) (wks q5 (.initialized Cmp3.yN.cls :: Cmp3.site))
  have q3 : ∀ w ∈ Cmp3.tab :: CodL.tab :: words, w.before a s = true := fun w hw => (List.mem_cons.mp hw).elim (fun e => e ▸ h3) fun hw => (List.mem_cons.mp hw).elim (fun e => e ▸ hc) (h w)
  have h4 : New4.tab.before a s = true := unparts (wk q3 (.code New4.yN New4.yB 6 none)) (wks q3 (.initialized New4.yN.cls :: New4.site))
  have q4 : ∀ w ∈ New4.tab :: words, w.before a s = true := fun w hw => (List.mem_cons.mp hw).elim (fun e => e ▸ h4) (h w)
  exact unparts (wk q4 (.code New1.yN New1.yB 2 none)) (wks q4 (.initialized New1.yN.cls :: New1.site))
/-- the words ride from the start Z to the walk's own state -/
theorem moved {Z s : State} {a0 args : Array Value} (hZ : Z.Warmed39 s.vm) (hw : ∀ d ∈ words, d.before a0 Z = true) : ∀ d ∈ words, d.before args s = true := fun d hd => by
  have q := hw d hd
  have t : ∀ d ∈ words, d = .arrayClass .byte ∨ (d.onTables && d.keepsFace) = true := by decide +kernel
  rcases t d hd with rfl | t
  · exact RoadKit.mvA hZ q
  · exact RoadKit.mv hZ q t
/-- WHAT COMES BACK, over the tables of the start Z: h the heap at the call, h' behind it -/
def Q (Z : State) (x : Addr) (A : Cell) (h : Heap) (v : Option Value) (h' : Heap) (L : List Loc) : Prop := v = none ∧ (∀ y ∈ L, y.base = x) ∧ RoadKit.Keep h h' [x] ∧ h'.size = h.size + 1 ∧ RoadKit.Exa Z h' x ST ∧ RoadKit.Fld Z h' x ST "value" "[B" (.ref h.size) ∧ RoadKit.Fld Z h' x ST "coder" "B" (.int 0) ∧
  (∃ V : Cell, RoadKit.Arr Z h' h.size V .byte ∧ V.vm = .none ∧ Z.vm.findClass "[B" = some V.cls ∧ V.slots.size = A.slots.size ∧ ∀ j, j < A.slots.size → V.slots[j]? = some (.int (lo8 (cv A j)))) ∧
  ∀ (O n d : String) (w : Value), RoadKit.Fld Z h x O n d w → RoadKit.slotOf Z O n d ≠ RoadKit.slotOf Z ST "value" "[B" → RoadKit.slotOf Z O n d ≠ RoadKit.slotOf Z ST "coder" "B" → RoadKit.Fld Z h' x O n d w
/-- **new String(chars) AT A CALL, IN THE ROAD'S FORM**: for specialBack behind newO: x the fresh String, b the char[] with the cell A -/
theorem back {p : Program} {l : Launch} {e : Env} {R : Room} {s : State} {args : Array Value} {below : List Frame} {len W : Nat} {Z : State} {a0 : Array Value} {h : Heap} (hZ : Z.Warmed39 s.vm) (hw : ∀ d ∈ words, d.before a0 Z = true) {kI : Nat} (wi : (Jvm.Cond.instantiable ST kI).before a0 Z = true)
    {x b : Addr} {A : Cell} {z : Int32} {v0 c0 : Value} (E : RoadKit.Exa Z h x ST) (V : RoadKit.Fld Z h x ST "value" "[B" v0) (C : RoadKit.Fld Z h x ST "coder" "B" c0) (K : RoadKit.Arr Z h b A .char) (hty : Typed .char A) (S : RoadKit.Sta Z h ST "COMPACT_STRINGS" "Z" (.int z)) (hz : ¬ z = 0)
    (l0 : 0 < A.slots.size) (l2 : A.slots.size ≤ 536870912) (hp : ∀ i, i < A.slots.size → ¬ 255 < cv A i) (hfr : 4 ≤ R.frames) (hlo : W + 65 ≤ R.locals) :
    Back l R p e below s args New1.yN len W (fun P a => a = #[.ref x, .ref b] ∧ P.U.heap = h ∧ P.cells + 1 ≤ R.cells ∧ P.slots + A.slots.size ≤ R.slots)
      (fun P _ v B => ∃ L, Q Z x A h v B.U.heap L ∧ B.locs = P.locs ++ L ∧ B.cells = P.cells + 1 ∧ B.slots = P.slots + A.slots.size) := by
  intro m meth c P g ig mk a X hg hsize hdg hW hn hp'
  obtain ⟨rfl, rfl, r1, r2⟩ := hp'
  have al : Z.vm.Alike P.U.vm := hZ.alike.trans X.warmed.alike
  obtain ⟨D, cfV, kV, iV, fV, hD, gV, stV, knV, obV, asV, slV⟩ := id V
  obtain ⟨D', cfC, kC, iC, fC, hD', gC, stC, -, -, asC, slC⟩ := id C
  cases hD.symm.trans hD'
  obtain ⟨D2, kD, e1, e2, e3, e4, e5⟩ := id E
  cases hD.symm.trans e1
  obtain ⟨c2, k2, i1, i2, i3, -⟩ := Cond.instantiable_spec wi
  cases e2.symm.trans i1
  cases e3.symm.trans i2
  obtain ⟨kU, u1, u2⟩ := al.2.2 _ _ e3
  have hB : Blank ST x D P.U := ⟨hD, ⟨knV, fun q hq => by rw [hq] at obV; cases obV⟩, by rw [al.findClass]; exact e2, kU, u1, by rw [u2]; exact i3, by rw [u2]; exact e5 i3⟩
  have F1 : Found ST "value" "[B" fV P.U := ⟨SBG.found_only al ⟨cfV, kV, iV, gV⟩, stV⟩
  have F2 : Found ST "coder" "B" fC P.U := ⟨SBG.found_only al ⟨cfC, kC, iC, gC⟩, stC⟩
  have hA : Ch b A P.U := ⟨⟨K.1, State.isArrayOf_alike al K.2.1, K.2.2, by omega⟩, hty⟩
  have hS : StaticIs P.U ST "COMPACT_STRINGS" "Z" (.int z) := by
    obtain ⟨cfS, iS, kS, fS, st, cS, t1, t2, t3, t4, t5, t6, t7⟩ := S
    exact StaticIs.there (s := { Z with heap := P.U.heap }) ⟨cfS, iS, kS, fS, st, cS, t1, t2, t3, t4, t5, (fun q => by rw [q] at t6; cases t6), t7⟩ al rfl
  obtain ⟨v, B, X', ⟨⟨hv, E', V', q1, q2, q3, q4, q5, q6, q7, q8, q9, q10, q11⟩, hl, hc, hs⟩, st⟩ := New1.pays x D fV fC b A z (tab_of (moved hZ hw)) hfr hlo m meth c P g ig mk _ X hg hsize hdg hW hn ⟨r1, r2, rfl, hB, F1, F2, hA, hS, hz, l0, l2, hp⟩
  have al' : Z.vm.Alike B.U.vm := hZ.alike.trans X'.warmed.alike
  have hsz : E'.slots.size = D.slots.size := by
    obtain ⟨-, -, -, kB, w1, w2, w3⟩ := q1
    obtain ⟨kB', y1, y2⟩ := al'.2.2 _ _ e3
    rw [q2.2.1] at w1
    cases w1.symm.trans y1
    rw [w3, e5 i3, y2]
  refine ⟨v, B, X', ⟨_, ⟨hv, ?_, ⟨by omega, fun y cy hy hn' => q10 y cy (by simpa using hn') hy, fun y cy hy => ?_⟩, q11, ⟨E', _, q1.1, by rw [q2.2.1]; exact e2, by rw [q2.2.1]; exact e3, by rw [q2.1]; exact obV, fun _ => by rw [hsz]; exact e5 i3⟩,
    ⟨E', cfV, kV, iV, fV, q1.1, gV, stV, by rw [q2.1]; exact knV, by rw [q2.1]; exact obV, by rw [q2.2.1]; exact asV, q3⟩, ⟨E', cfC, kC, iC, fC, q1.1, gC, stC, by rw [q2.1]; exact knV, by rw [q2.1]; exact obV, by rw [q2.2.1]; exact asC, q4⟩,
    ⟨V', ⟨q5.1, State.isArrayOf_alike al'.symm q5.2.1, q5.2.2.1⟩, q6, by rw [← al'.findClass]; exact q7, q8, fun j hj => by have := q9 j hj; rwa [Nat.zero_add] at this⟩, fun O n d w F n1 n2 => ?_⟩, hl, hc, hs⟩, st⟩
  · intro y hy
    simp only [List.mem_cons, List.not_mem_nil, or_false] at hy
    rcases hy with rfl | rfl <;> rfl
  · by_cases q : y = x
    · subst q
      cases hD.symm.trans hy
      exact ⟨E', q1.1, q2.2.1, q2.1, hsz⟩
    · exact ⟨cy, q10 y cy q hy, rfl, rfl, rfl⟩
  · obtain ⟨D3, cf, k, i, f, g1, g2, g3, g4, g5, g6, g7⟩ := F
    cases hD.symm.trans g1
    simp only [RoadKit.slotOf, g2, gV, gC, Option.map_some, Option.getD_some] at n1 n2
    exact ⟨E', cf, k, i, f, q1.1, g2, g3, by rw [q2.1]; exact g4, by rw [q2.1]; exact g5, by rw [q2.2.1]; exact g6, by rw [q2.2.2 f.slot (by simp [n1, n2])]; exact g7⟩
end StrChars.Road
namespace StrChars.Road
open Jvm Sem ClassFile Op Lib Jvm.Stand Jvm.Free Jvm.Free.XT
/-- WHAT COMES BACK, the byte[] as a list of values -/
def QA (Z : State) (x : Addr) (zn : Int32) (cs : List Int32) (h : Heap) (v : Option Value) (h' : Heap) (L : List Loc) : Prop := v = none ∧ (∀ y ∈ L, y.base = x) ∧ RoadKit.Keep h h' [x] ∧ h'.size = h.size + 1 ∧ RoadKit.Exa Z h' x ST ∧ RoadKit.Fld Z h' x ST "value" "[B" (.ref h.size) ∧ RoadKit.Fld Z h' x ST "coder" "B" (.int 0) ∧
  (∃ kb, Z.vm.findClass "[B" = some kb ∧ RoadKit.Arv Z h' h.size kb .byte zn (cs.map fun c => .int (lo8 c)) (.int 0)) ∧
  ∀ (O n d : String) (w : Value), RoadKit.Fld Z h x O n d w → RoadKit.slotOf Z O n d ≠ RoadKit.slotOf Z ST "value" "[B" → RoadKit.slotOf Z O n d ≠ RoadKit.slotOf Z ST "coder" "B" → RoadKit.Fld Z h' x O n d w
/-- **new String(chars) AT A CALL, THE ARRAYS AS LISTS**: the char[] at b holds cs, not empty, no char above 255 -/
theorem backArv {p : Program} {l : Launch} {e : Env} {R : Room} {s : State} {args : Array Value} {below : List Frame} {len W : Nat} {Z : State} {a0 : Array Value} {h : Heap} (hZ : Z.Warmed39 s.vm) (hw : ∀ d ∈ words, d.before a0 Z = true) {kI : Nat} (wi : (Jvm.Cond.instantiable ST kI).before a0 Z = true)
    {x b : Addr} {k : ClassId} {zn z : Int32} {cs : List Int32} {dv v0 c0 : Value} (E : RoadKit.Exa Z h x ST) (V : RoadKit.Fld Z h x ST "value" "[B" v0) (C : RoadKit.Fld Z h x ST "coder" "B" c0) (K : RoadKit.Arv Z h b k .char zn (cs.map Value.int) dv) (S : RoadKit.Sta Z h ST "COMPACT_STRINGS" "Z" (.int z)) (hz : ¬ z = 0)
    (hlen : zn.toNatClampNeg = cs.length) (h0 : 0 < cs.length) (hbig : cs.length ≤ 536870912) (hall : ∀ c ∈ cs, ¬ 255 < c) (hfr : 4 ≤ R.frames) (hlo : W + 65 ≤ R.locals) :
    Back l R p e below s args New1.yN len W (fun P a => a = #[.ref x, .ref b] ∧ P.U.heap = h ∧ P.cells + 1 ≤ R.cells ∧ P.slots + cs.length ≤ R.slots)
      (fun P _ v B => ∃ L, QA Z x zn cs h v B.U.heap L ∧ B.locs = P.locs ++ L ∧ B.cells = P.cells + 1 ∧ B.slots = P.slots + cs.length) := by
  obtain ⟨A, K1, K2, K3, K4, K5, K6⟩ := K
  have e : A.slots.size = cs.length := K3.trans hlen
  have hat : ∀ (i : Nat) (hi : i < cs.length), A.slots[i]? = some (.int cs[i]) := fun i hi => by rw [K5 i (by omega)]; simp [List.getD_eq_getElem?_getD, hi]
  have hcv : ∀ (i : Nat) (hi : i < cs.length), cv A i = cs[i] := fun i hi => by unfold cv; rw [hat i hi]
  have hty : Typed .char A := fun i v hv => by
    have hi : i < A.slots.size := (Array.getElem?_eq_some_iff.mp hv).1
    have q := K5 i hi
    rw [hv] at q
    rw [Option.some.inj q]
    exact K6 i hi
  refine Back.mono (back hZ hw wi E V C K1 hty S hz (by omega) (by omega) (fun i hi => by rw [hcv i (by omega)]; exact hall _ (List.getElem_mem _)) hfr hlo) (fun P a hp => ⟨hp.1, hp.2.1, hp.2.2.1, by rw [e]; exact hp.2.2.2⟩) (fun P a v B hp hq => ?_)
  obtain ⟨L, ⟨q1, q2, q3, q4, q5, q6, q7, ⟨V', v1, v2, v3, v4, v5⟩, q9⟩, hl, hc, hs⟩ := hq
  refine ⟨L, ⟨q1, q2, q3, q4, q5, q6, q7, ⟨V'.cls, v3, V', v1, rfl, by rw [v4, e, hlen], K4, fun i hi => ?_, fun i hi => ?_⟩, q9⟩, hl, hc, by rw [hs, e]⟩
  · have hi' : i < cs.length := by omega
    rw [v5 i (by omega), hcv i hi']; simp [List.getD_eq_getElem?_getD, hi']
  · have hi' : i < cs.length := by omega
    simp only [List.getD_eq_getElem?_getD, List.getElem?_map, List.getElem?_eq_getElem hi', Option.map_some, Option.getD_some]
    exact fits_lo8 _
end StrChars.Road
namespace StrChars.Road
open Jvm Sem ClassFile Op Lib Jvm.Stand Jvm.Free Jvm.Free.XT
/-- WHAT COMES BACK, in the writer's own shape -/
def QV (Z : State) (x : Addr) (N : Int32) (bs : List Int32) (h : Heap) (n0 : Nat) (v : Option Value) (h' : Heap) (L : List Loc) : Prop := v = none ∧ RoadKit.Fr n0 L ∧ RoadKit.Keep h h' [x] ∧ RoadKit.Exa Z h' x ST ∧ RoadKit.Fld Z h' x ST "coder" "B" (.int 0) ∧
  ∃ (t : Addr) (kb : ClassId), n0 ≤ t ∧ h.size ≤ t ∧ ¬ t = x ∧ RoadKit.Fld Z h' x ST "value" "[B" (.ref t) ∧ RoadKit.Arv Z h' t kb .byte N (bs.map Value.int) (.int 0)
/-- **new String(chars) AT A CALL, FOR THE WRITER**: a char[] of n known ints, each 0 to 255 -/
theorem backV {p : Program} {l : Launch} {e : Env} {R : Room} {s : State} {args : Array Value} {below : List Frame} {len W : Nat} {Z : State} {a0 : Array Value} {h : Heap} (hZ : Z.Warmed39 s.vm) (hw : ∀ d ∈ words, d.before a0 Z = true) {kI : Nat} (wi : (Jvm.Cond.instantiable ST kI).before a0 Z = true)
    {x b : Addr} {kC : ClassId} {cs bs : List Int32} {d v0 c0 : Value} {z N : Int32} {n n0 : Nat} (hx0 : n0 ≤ x) (hh0 : n0 ≤ h.size) (E : RoadKit.Exa Z h x ST) (V : RoadKit.Fld Z h x ST "value" "[B" v0) (C : RoadKit.Fld Z h x ST "coder" "B" c0) (K : RoadKit.Arv Z h b kC .char N (cs.map Value.int) d) (S : RoadKit.Sta Z h ST "COMPACT_STRINGS" "Z" (.int z)) (hz : ¬ z = 0)
    (hn : cs.length = n) (hN : N = Int32.ofNat n) (l0 : 0 < n) (l2 : n ≤ 4000) (hp : ∀ c ∈ cs, ¬ c < 0 ∧ ¬ (255 : Int32) < c) (hb : bs = cs.map (fun c => c.toInt8.toInt32)) (hfr : 4 ≤ R.frames) (hlo : W + 65 ≤ R.locals) :
    Back l R p e below s args (⟨"java/lang/String", "<init>", "([C)V"⟩ : MethodName) len W (fun P a => a = #[.ref x, .ref b] ∧ P.U.heap = h ∧ P.cells + 1 ≤ R.cells ∧ P.slots + n ≤ R.slots)
      (fun P _ v B => ∃ L, QV Z x N bs h n0 v B.U.heap L ∧ B.locs = P.locs ++ L ∧ B.cells = P.cells + 1 ∧ B.slots = P.slots + n) := by
  subst hn hN hb
  refine Back.mono (backArv hZ hw wi E V C K S hz (n32 (by omega)) l0 (by omega) (fun c hc => (hp c hc).2) hfr hlo) (fun P a hp => hp) (fun P a v B hp hq => ?_)
  obtain ⟨L, ⟨q1, q2, q3, q4, q5, q6, q7, ⟨kb, v1, v2⟩, q9⟩, hl, hc, hs⟩ := hq
  exact ⟨L, ⟨q1, fun y hy => by rw [q2 y hy]; exact hx0, q3, q5, q7, h.size, kb, hh0, Nat.le_refl _, Nat.ne_of_gt E.lt, q6, by rw [List.map_map]; exact v2⟩, hl, hc, hs⟩
end StrChars.Road
namespace StrChars
open Jvm Sem ClassFile Op Lib Jvm.Stand Jvm.Free.XT Jvm.Free.ALB Jvm.Free.JM Jvm.Free
open Jvm.Lib.Cold (StaticIs)
def hi8 (x : Int32) : Int32 := lo8 (x >>> ((8 : Int32) &&& 31))
/-- what StringUTF16.getChar makes of two bytes -/
def pairCh (u v : Int32) : Int32 := (((u &&& 255) <<< ((0 : Int32) &&& 31)) ||| ((v &&& 255) <<< ((8 : Int32) &&& 31))).toUInt32.toUInt16.toUInt32.toInt32
theorem lo8_and (x : Int32) : (lo8 x &&& 255).toBitVec.toNat = x.toBitVec.toNat % 256 := by
  have h : (lo8 x).toBitVec = (x.toBitVec.signExtend 8).signExtend 32 := by rw [lo8, Int8.toBitVec_toInt32, Int32.toBitVec_toInt8]
  rw [Int32.toBitVec_and, BitVec.toNat_and, h]
  have e : ((x.toBitVec.signExtend 8).signExtend 32).toNat % 256 = x.toBitVec.toNat % 256 := by
    rw [BitVec.toNat_signExtend]
    have hlt := x.toBitVec.isLt
    simp only [BitVec.toNat_setWidth, BitVec.toNat_signExtend]
    split <;> split <;> omega
  rw [← e]
  exact Nat.and_two_pow_sub_one_eq_mod _ 8
theorem pair_says {c : Int32} (h0 : ¬ c < 0) (h1 : ¬ 65535 < c) : pairCh (lo8 c) (hi8 c) = c := by
  rw [Int32.lt_iff_toInt_lt] at h0 h1
  have e0 : (0 : Int32).toInt = 0 := rfl
  have e1 : (65535 : Int32).toInt = 65535 := rfl
  have hc : c.toInt = c.toBitVec.toNat := by
    have := c.toBitVec.isLt
    have e : c.toInt = c.toBitVec.toInt := rfl
    rw [e] at h0 h1
    rw [e]
    rw [BitVec.toInt_eq_toNat_cond] at h0 h1 ⊢
    split at h0 <;> split <;> omega
  have hn : c.toBitVec.toNat < 65536 := by omega
  have a1 := lo8_and c
  have a2 : (hi8 c &&& 255).toBitVec.toNat = c.toBitVec.toNat / 256 := by
    rw [hi8, lo8_and]
    have e : ((8 : Int32) &&& 31) = 8 := by decide
    rw [e, Int32.toBitVec_shiftRight]
    have e2 : ((8 : Int32).toBitVec.smod 32) = 8#32 := by decide
    rw [e2, BitVec.sshiftRight_eq', BitVec.toNat_sshiftRight_of_msb_false (by rw [BitVec.msb_eq_false_iff_two_mul_lt]; omega)]
    show c.toBitVec.toNat >>> 8 % 256 = _
    rw [Nat.shiftRight_eq_div_pow]
    omega
  unfold pairCh
  apply Int32.toBitVec_inj.mp
  apply BitVec.eq_of_toNat_eq
  have f0 : ((0 : Int32) &&& 31) = 0 := by decide
  have f8 : ((8 : Int32) &&& 31) = 8 := by decide
  rw [f0, f8]
  have g : (((lo8 c &&& 255) <<< (0 : Int32)) ||| ((hi8 c &&& 255) <<< (8 : Int32))).toBitVec.toNat = c.toBitVec.toNat := by
    rw [Int32.toBitVec_or, Int32.toBitVec_shiftLeft, Int32.toBitVec_shiftLeft]
    have s0 : ((0 : Int32).toBitVec.smod 32) = 0#32 := by decide
    have s8 : ((8 : Int32).toBitVec.smod 32) = 8#32 := by decide
    rw [s0, s8, BitVec.toNat_or]
    simp only [BitVec.shiftLeft_eq', BitVec.toNat_shiftLeft, a1, a2]
    show (c.toBitVec.toNat % 256) <<< 0 % 2 ^ 32 ||| (c.toBitVec.toNat / 256) <<< 8 % 2 ^ 32 = _
    rw [Nat.shiftLeft_zero, Nat.mod_eq_of_lt (show c.toBitVec.toNat % 256 < 2 ^ 32 by omega), Nat.mod_eq_of_lt (show (c.toBitVec.toNat / 256) <<< 8 < 2 ^ 32 by rw [Nat.shiftLeft_eq]; omega), Nat.or_comm, ← Nat.shiftLeft_add_eq_or_of_lt (by omega), Nat.shiftLeft_eq]
    omega
  show BitVec.toNat (((((lo8 c &&& 255) <<< (0 : Int32)) ||| ((hi8 c &&& 255) <<< (8 : Int32))).toBitVec.setWidth 16).setWidth 32) = _
  rw [BitVec.toNat_setWidth, BitVec.toNat_setWidth, g]
  omega
end StrChars
namespace StrChars
open Jvm Sem ClassFile Op Lib Jvm.Stand Jvm.Free.XT Jvm.Free.ALB Jvm.Free.JM Jvm.Free
open Jvm.Lib.Cold (StaticIs)
/-- the array's cell V codes the n chars f 0 .. f (n - 1) by the coder cd, as the JDK does: coder 1 just where some char is above 255 -/
def Cod (cd : Int32) (n : Nat) (f : Nat → Int32) (V : Cell) : Prop := (cd = 0 ∧ V.slots.size = n ∧ ∀ j, j < n → V.slots[j]? = some (.int (lo8 (f j))) ∧ ¬ 255 < f j) ∨ (cd = 1 ∧ V.slots.size = 2 * n ∧ (∀ j, j < n → V.slots[2 * j]? = some (.int (lo8 (f j))) ∧ V.slots[2 * j + 1]? = some (.int (hi8 (f j)))) ∧ ∃ j, j < n ∧ 255 < f j)
/-- **x is a String of the n chars f 0 .. f (n - 1)**, Latin-1 or UTF-16; its array at t has the cell V -/
def Txt (x t : Addr) (V : Cell) (cd : Int32) (n : Nat) (f : Nat → Int32) (U : State) : Prop := Exact "java/lang/String" x U ∧ Has x "java/lang/String" "value" "[B" (.ref t) U ∧ Has x "java/lang/String" "coder" "B" (.int cd) U ∧ XT.Arr .byte t V U ∧ Cod cd n f V ∧ ∀ j, j < n → ¬ f j < 0 ∧ ¬ 65535 < f j
theorem Txt.mv {x t : Addr} {V : Cell} {cd : Int32} {n : Nat} {f : Nat → Int32} {U U' : State} (h : Txt x t V cd n f U) (hal : U.vm.Alike U'.vm) (hh : U'.heap = U.heap) : Txt x t V cd n f U' := ⟨h.1.mv hal hh, h.2.1.mv hal hh, h.2.2.1.mv hal hh, h.2.2.2.1.mv hal hh, h.2.2.2.2⟩
end StrChars
namespace StrChars.Road
open Jvm Sem ClassFile Op Lib Jvm.Stand Jvm.Free Jvm.Free.XT
open Jvm.Lib.Cold (StaticIs)
theorem consq {a : Array Value} {s : State} {c : Jvm.Cond} {L : List Jvm.Cond} (h0 : c.before a s = true) (h : ∀ w ∈ L, w.before a s = true) : ∀ w ∈ c :: L, w.before a s = true := fun w hw => (List.mem_cons.mp hw).elim (fun e => e ▸ h0) (h w)
/-- the bytes of the chars cs, low before high -/
def wideBytes : List Int32 → List Value
  | [] => []
  | c :: cs => .int (lo8 c) :: .int (hi8 c) :: wideBytes cs
theorem wide_lo (d : Value) : ∀ (cs : List Int32) (j : Nat), j < cs.length → (wideBytes cs).getD (2 * j) d = .int (lo8 (cs.getD j 0))
  | [], j, h => absurd h (Nat.not_lt_zero j)
  | c :: cs, 0, _ => rfl
  | c :: cs, j + 1, h => by
    have q := wide_lo d cs j (by simpa using h)
    rw [show 2 * (j + 1) = 2 * j + 1 + 1 from by omega]
    simpa [wideBytes] using q
theorem wide_hi (d : Value) : ∀ (cs : List Int32) (j : Nat), j < cs.length → (wideBytes cs).getD (2 * j + 1) d = .int (hi8 (cs.getD j 0))
  | [], j, h => absurd h (Nat.not_lt_zero j)
  | c :: cs, 0, _ => rfl
  | c :: cs, j + 1, h => by
    have q := wide_hi d cs j (by simpa using h)
    rw [show 2 * (j + 1) + 1 = 2 * j + 1 + 1 + 1 from by omega]
    simpa [wideBytes] using q
theorem low_at (d : Value) (cs : List Int32) (j : Nat) (h : j < cs.length) : (cs.map fun c => Value.int (lo8 c)).getD j d = .int (lo8 (cs.getD j 0)) := by
  simp [List.getD_eq_getElem?_getD, h]
/-- an array of N2 bytes vs codes the chars cs by the coder cd -/
def CodA (cs : List Int32) (cd N2 : Int32) (vs : List Value) : Prop := (cd = 0 ∧ N2 = Int32.ofNat cs.length ∧ vs = (cs.map fun c => Value.int (lo8 c)) ∧ ∀ c ∈ cs, ¬ 255 < c) ∨ (cd = 1 ∧ N2 = Int32.ofNat (2 * cs.length) ∧ vs = wideBytes cs ∧ ∃ c ∈ cs, 255 < c)
theorem CodA.cod {cs : List Int32} {cd N2 : Int32} {vs : List Value} {V : Cell} (h : CodA cs cd N2 vs) (hn : 2 * cs.length < 2 ^ 31) (hs : V.slots.size = N2.toNatClampNeg) (hv : RoadKit.Has V vs (.int 0)) : Cod cd cs.length (fun j => cs.getD j 0) V := by
  rcases h with ⟨rfl, rfl, rfl, h⟩ | ⟨rfl, rfl, rfl, c, hc, hw⟩
  · rw [n32 (by omega)] at hs
    exact Or.inl ⟨rfl, hs, fun j hj => ⟨by rw [hv j (by omega), low_at _ _ _ hj], by
      have e : cs.getD j 0 = cs[j] := by simp [List.getD_eq_getElem?_getD, hj]
      show ¬ 255 < cs.getD j 0
      rw [e]; exact h _ (List.getElem_mem _)⟩⟩
  · rw [n32 (by omega)] at hs
    obtain ⟨j, hj, rfl⟩ := List.getElem_of_mem hc
    exact Or.inr ⟨rfl, hs, fun j hj => ⟨by rw [hv _ (by omega), wide_lo _ _ _ hj], by rw [hv _ (by omega), wide_hi _ _ _ hj]⟩, j, hj, by
      have e : cs.getD j 0 = cs[j] := by simp [List.getD_eq_getElem?_getD, hj]
      show 255 < cs.getD j 0
      rw [e]; exact hw⟩
/-- an object of exactly java/lang/String, its two fields found: as the laws ask it -/
theorem strObj {Z U : State} {a0 : Array Value} {kI : Nat} (wi : (Jvm.Cond.instantiable ST kI).before a0 Z = true) (al : Z.vm.Alike U.vm) {x : Addr} {v0 c0 : Value} (E : RoadKit.Exa Z U.heap x ST) (V : RoadKit.Fld Z U.heap x ST "value" "[B" v0) (C : RoadKit.Fld Z U.heap x ST "coder" "B" c0) :
    ∃ (D : Cell) (fV fC : Field), Blank ST x D U ∧ Found ST "value" "[B" fV U ∧ Found ST "coder" "B" fC U ∧ D.slots[fV.slot]? = some v0 ∧ D.slots[fC.slot]? = some c0 ∧ RoadKit.slotOf Z ST "value" "[B" = fV.slot ∧ RoadKit.slotOf Z ST "coder" "B" = fC.slot := by
  obtain ⟨D, cfV, kV, iV, fV, hD, gV, stV, knV, obV, asV, slV⟩ := V
  obtain ⟨D', cfC, kC, iC, fC, hD', gC, stC, -, -, asC, slC⟩ := C
  cases hD.symm.trans hD'
  obtain ⟨D2, kD, e1, e2, e3, e4, e5⟩ := E
  cases hD.symm.trans e1
  obtain ⟨c2, k2, i1, i2, i3, -⟩ := Cond.instantiable_spec wi
  cases e2.symm.trans i1
  cases e3.symm.trans i2
  obtain ⟨kU, u1, u2⟩ := al.2.2 _ _ e3
  exact ⟨D, fV, fC, ⟨hD, ⟨knV, fun q hq => by rw [hq] at obV; cases obV⟩, by rw [al.findClass]; exact e2, kU, u1, by rw [u2]; exact i3, by rw [u2]; exact e5 i3⟩, ⟨SBG.found_only al ⟨cfV, kV, iV, gV⟩, stV⟩, ⟨SBG.found_only al ⟨cfC, kC, iC, gC⟩, stC⟩, slV, slC, by simp [RoadKit.slotOf, gV], by simp [RoadKit.slotOf, gC]⟩
theorem sta_is {Z U : State} (al : Z.vm.Alike U.vm) {C n d : String} {v : Value} (S : RoadKit.Sta Z U.heap C n d v) : StaticIs U C n d v := by
  obtain ⟨cfS, iS, kS, fS, st, cS, t1, t2, t3, t4, t5, t6, t7⟩ := S
  exact StaticIs.there (s := { Z with heap := U.heap }) ⟨cfS, iS, kS, fS, st, cS, t1, t2, t3, t4, t5, (fun q => by rw [q] at t6; cases t6), t7⟩ al rfl
end StrChars.Road
namespace StrChars
open Jvm Sem ClassFile Op Lib Jvm.Stand Jvm.Free.XT Jvm.Free.ALB Jvm.Free.JM Jvm.Free
open Jvm.Lib.Cold (StaticIs)
/-- what place i of a byte[]'s cell holds -/
def yv (A : Cell) (i : Nat) : Int32 := match A.slots[i]? with | some (.int x) => x | _ => 0
theorem yv_get {a : Addr} {A : Cell} {U : State} (h : XT.Arr .byte a A U) (ht : Typed .byte A) {i : Nat} (hi : i < A.slots.size) : A.slots[i]? = some (.int (yv A i)) := by
  have e := Array.getElem?_eq_getElem hi
  have f := ht i _ e
  unfold yv; rw [e]
  generalize A.slots[i] = v at f
  cases v <;> simp [fits] at f ⊢
/-- the two arrays are equal, place for place -/
def EqC (A B : Cell) : Prop := A.slots.size = B.slots.size ∧ ∀ i, i < A.slots.size → yv A i = yv B i
/-- a boolean that says whether p -/
def Says01 (q : Prop) (r : Option Value) (s u : State) : Prop := ∃ v : Int32, r = some (.int v) ∧ u.heap = s.heap ∧ ((v = 1 ∧ q) ∨ (v = 0 ∧ ¬ q))
theorem Says01.mv {q : Prop} : ∀ r (U U' V V' : State), U'.heap = U.heap → V.vm.Alike V'.vm → V'.heap = V.heap → Says01 q r U V → Says01 q r U' V' :=
  fun r U U' V V' h1 _ h2 ⟨v, a, b, c⟩ => ⟨v, a, by rw [h1, h2]; exact b, c⟩
namespace LEq
def yN : MethodName := ⟨"java/lang/StringLatin1", "equals", "([B[B)Z"⟩
abbrev yB : ByteArray := jdk_43_method_13_code
theorem d0 : decode yB 0 = .ok (.aload_n 0, 1) := by decide +kernel
theorem d1 : decode yB 1 = .ok (.arraylength, 1) := by decide +kernel
theorem d2 : decode yB 2 = .ok (.aload_n 1, 1) := by decide +kernel
theorem d3 : decode yB 3 = .ok (.arraylength, 1) := by decide +kernel
theorem d4 : decode yB 4 = .ok (.if_icmp (.ne) 30, 3) := by decide +kernel
theorem d7 : decode yB 7 = .ok (.iconst 0, 1) := by decide +kernel
theorem d8 : decode yB 8 = .ok (.istore_n 2, 1) := by decide +kernel
theorem d9 : decode yB 9 = .ok (.iload_n 2, 1) := by decide +kernel
theorem d10 : decode yB 10 = .ok (.aload_n 0, 1) := by decide +kernel
theorem d11 : decode yB 11 = .ok (.arraylength, 1) := by decide +kernel
theorem d12 : decode yB 12 = .ok (.if_icmp (.ge) 20, 3) := by decide +kernel
theorem d15 : decode yB 15 = .ok (.aload_n 0, 1) := by decide +kernel
theorem d16 : decode yB 16 = .ok (.iload_n 2, 1) := by decide +kernel
theorem d17 : decode yB 17 = .ok (.baload, 1) := by decide +kernel
theorem d18 : decode yB 18 = .ok (.aload_n 1, 1) := by decide +kernel
theorem d19 : decode yB 19 = .ok (.iload_n 2, 1) := by decide +kernel
theorem d20 : decode yB 20 = .ok (.baload, 1) := by decide +kernel
theorem d21 : decode yB 21 = .ok (.if_icmp (.eq) 5, 3) := by decide +kernel
theorem d24 : decode yB 24 = .ok (.iconst 0, 1) := by decide +kernel
theorem d25 : decode yB 25 = .ok (.ireturn, 1) := by decide +kernel
theorem d26 : decode yB 26 = .ok (.iinc 2 1, 3) := by decide +kernel
theorem d29 : decode yB 29 = .ok (.goto (-20), 3) := by decide +kernel
theorem d32 : decode yB 32 = .ok (.iconst 1, 1) := by decide +kernel
theorem d33 : decode yB 33 = .ok (.ireturn, 1) := by decide +kernel
theorem d34 : decode yB 34 = .ok (.iconst 0, 1) := by decide +kernel
theorem d35 : decode yB 35 = .ok (.ireturn, 1) := by decide +kernel
def site : List Cond := []
def tab : Cond := tabOf yN yB 3 (some .boolean) site
def P (a : Addr) (A : Cell) (b : Addr) (B : Cell) (args : Array Value) (s : State) : Prop := args = #[.ref a, .ref b] ∧ XT.Arr .byte a A s ∧ Typed .byte A ∧ XT.Arr .byte b B s ∧ Typed .byte B
/-- whether two byte[] are equal, place for place -/
theorem law (l : Launch) (a : Addr) (A : Cell) (b : Addr) (B : Cell) : Law l yN 2 2 0 0 yB 3 (some .boolean) site (P a A b B) (Says01 (EqC A B)) [] 0 0 := by
  refine Law.of_walk (plainFor_of_name (by decide +kernel)) (by decide +kernel) (by decide +kernel) (by decide) (fun _ _ h => by rw [h.1]; rfl) (fun _ U U' hal hh h => ⟨h.1, h.2.1.mv hal hh, h.2.2.1, h.2.2.2.1.mv hal hh, h.2.2.2.2⟩) (fun r U U' V V' h1 hal h2 h => Says01.mv r U U' V V' h1 hal h2 h) ?_
  intro p e s m args below meth c s₁ X0 hexec hbytes hml hret hlk hnm hown hh0 W hP
  obtain ⟨rfl, hA, tA, hB, tB⟩ := hP
  have a31 := hA.2.2.2
  have b31 := hB.2.2.2
  have hA0 := hA.mv X0.warmed.alike hh0
  have hB0 := hB.mv X0.warmed.alike hh0
  have c1 : Steps p.tables e below (s₁.setTop (entryFrame m #[.ref a, .ref b] 3)) (s₁.setTop (mkF m 0 #[.val (.ref a), .val (.ref b), .unset] [])) := entry rfl
  have c2 : Steps p.tables e below (s₁.setTop (entryFrame m #[.ref a, .ref b] 3)) (s₁.setTop (mkF m 4 #[.val (.ref a), .val (.ref b), .unset] [.int (Int32.ofNat B.slots.size), .int (Int32.ofNat A.slots.size)])) := c1.trans (by
    refine XS.aloadN X0.here hexec rfl (hb hbytes d0) rfl rfl ?_
    refine X0.alen hexec hA0 rfl rfl (hb hbytes d1) ?_
    refine XS.aloadN X0.here hexec rfl (hb hbytes d2) rfl rfl ?_
    refine X0.alen hexec hB0 rfl rfl (hb hbytes d3) ?_
    exact Steps.refl _)
  by_cases hs : A.slots.size = B.slots.size
  · have c3 : Steps p.tables e below (s₁.setTop (entryFrame m #[.ref a, .ref b] 3)) (s₁.setTop (mkF m 9 #[.val (.ref a), .val (.ref b), .val (.int 0)] [])) := c2.trans (by
      refine XS.icmpNo X0.here hexec rfl (hb hbytes d4) rfl (ii_ne_f (by rw [hs])) ?_
      refine iconstV X0.here hexec rfl 0 (hb hbytes d7) (by decide) ?_
      refine XS.istoreN X0.here hexec rfl (hb hbytes d8) rfl rfl ?_
      exact Steps.refl _)
    have loop : ∀ (r i : Nat), i + r = A.slots.size → (∀ j, j < i → yv A j = yv B j) → Steps p.tables e below (s₁.setTop (entryFrame m #[.ref a, .ref b] 3)) (s₁.setTop (mkF m 9 #[.val (.ref a), .val (.ref b), .val (.int (Int32.ofNat i))] [])) → ∃ (pc : Nat) (Ls : Array Slot) (v : Int32), (pc = 25 ∨ pc = 33) ∧ ((v = 1 ∧ EqC A B) ∨ (v = 0 ∧ ¬ EqC A B)) ∧ Steps p.tables e below (s₁.setTop (entryFrame m #[.ref a, .ref b] 3)) (s₁.setTop (mkF m pc Ls [.int v])) := by
      intro r
      induction r with
      | zero =>
        intro i hi he cl
        exact ⟨33, _, 1, Or.inr rfl, Or.inl ⟨rfl, hs, fun j hj => he j (by omega)⟩, cl.trans (by
          refine XS.iloadN X0.here hexec rfl (hb hbytes d9) rfl ?_
          refine XS.aloadN X0.here hexec rfl (hb hbytes d10) rfl rfl ?_
          refine X0.alen hexec hA0 rfl rfl (hb hbytes d11) ?_
          refine XS.icmpYes X0.here hexec rfl (pc0 := 12) rfl (hb hbytes d12) rfl (ii_ge_t (nlt32 (by omega) (by omega))) (by decide) rfl ?_
          refine iconstV X0.here hexec rfl 1 (hb hbytes d32) (by decide) ?_
          exact Steps.refl _)⟩
      | succ r ih =>
        intro i hi he cl
        have c4 : Steps p.tables e below (s₁.setTop (entryFrame m #[.ref a, .ref b] 3)) (s₁.setTop (mkF m 21 #[.val (.ref a), .val (.ref b), .val (.int (Int32.ofNat i))] [.int (yv B i), .int (yv A i)])) := cl.trans (by
          refine XS.iloadN X0.here hexec rfl (hb hbytes d9) rfl ?_
          refine XS.aloadN X0.here hexec rfl (hb hbytes d10) rfl rfl ?_
          refine X0.alen hexec hA0 rfl rfl (hb hbytes d11) ?_
          refine XS.icmpNo X0.here hexec rfl (hb hbytes d12) rfl (ii_ge_f (lt32 (by omega) (by omega))) ?_
          refine XS.aloadN X0.here hexec rfl (hb hbytes d15) rfl rfl ?_
          refine XS.iloadN X0.here hexec rfl (hb hbytes d16) rfl ?_
          refine X0.aget hexec hA0 rfl (yv_get hA tA (i := i) (by omega)) rfl rfl (hb hbytes d17) ?_
          refine XS.aloadN X0.here hexec rfl (hb hbytes d18) rfl rfl ?_
          refine XS.iloadN X0.here hexec rfl (hb hbytes d19) rfl ?_
          refine X0.aget hexec hB0 rfl (yv_get hB tB (i := i) (by omega)) rfl rfl (hb hbytes d20) ?_
          exact Steps.refl _)
        by_cases hv : yv A i = yv B i
        · have c5 : Steps p.tables e below (s₁.setTop (entryFrame m #[.ref a, .ref b] 3)) (s₁.setTop (mkF m 9 #[.val (.ref a), .val (.ref b), .val (.int (Int32.ofNat i + 1))] [])) := c4.trans (by
            refine XS.icmpYes X0.here hexec rfl (pc0 := 21) rfl (hb hbytes d21) rfl (ii_eq_t hv) (by decide) rfl ?_
            refine iincV X0.here hexec rfl 1 (hb hbytes d26) (by decide) rfl rfl ?_
            refine XS.goto X0.here hexec rfl (pc0 := 29) rfl (hb hbytes d29) (by decide) rfl ?_
            exact Steps.refl _)
          rw [succ32] at c5
          exact ih (i + 1) (by omega) (fun j hj => by
            by_cases e : j = i
            · rw [e]; exact hv
            · exact he j (by omega)) c5
        · exact ⟨25, _, 0, Or.inl rfl, Or.inr ⟨rfl, fun q => hv (q.2 i (by omega))⟩, c4.trans (by
            refine XS.icmpNo X0.here hexec rfl (hb hbytes d21) rfl (ii_eq_f hv) ?_
            refine iconstV X0.here hexec rfl 0 (hb hbytes d24) (by decide) ?_
            exact Steps.refl _)⟩
    obtain ⟨pc, Ls, v, hpc, hv, cz⟩ := loop A.slots.size 0 (by omega) (fun j hj => absurd hj (Nat.not_lt_zero j)) c3
    have nv : narrow .boolean (.int v) = .int v := by rcases hv with ⟨rfl, -⟩ | ⟨rfl, -⟩ <;> rfl
    rcases hpc with rfl | rfl
    · exact ⟨s₁, some (.int v), _, _, _, X0, rfl, rfl, rfl, (fun h => by cases h), ⟨v, rfl, hh0, hv⟩, fun fs hl => cz.trans (X0.ireturnOut hexec hret nv (Or.inr (Or.inl rfl)) (hb hbytes d25) hl)⟩
    · exact ⟨s₁, some (.int v), _, _, _, X0, rfl, rfl, rfl, (fun h => by cases h), ⟨v, rfl, hh0, hv⟩, fun fs hl => cz.trans (X0.ireturnOut hexec hret nv (Or.inr (Or.inl rfl)) (hb hbytes d33) hl)⟩
  · have c3 : Steps p.tables e below (s₁.setTop (entryFrame m #[.ref a, .ref b] 3)) (s₁.setTop (mkF m 35 #[.val (.ref a), .val (.ref b), .unset] [.int 0])) := c2.trans (by
      refine XS.icmpYes X0.here hexec rfl (pc0 := 4) rfl (hb hbytes d4) rfl (ii_ne_t (ne32 a31 b31 hs)) (by decide) rfl ?_
      refine iconstV X0.here hexec rfl 0 (hb hbytes d34) (by decide) ?_
      exact Steps.refl _)
    exact ⟨s₁, some (.int 0), _, _, _, X0, rfl, rfl, rfl, (fun h => by cases h), ⟨0, rfl, hh0, Or.inr ⟨rfl, fun q => hs q.1⟩⟩, fun fs hl => c3.trans (X0.ireturnOut hexec hret rfl (Or.inr (Or.inl rfl)) (hb hbytes d35) hl)⟩
end LEq
theorem Cod.ty {cd : Int32} {n : Nat} {f : Nat → Int32} {V : Cell} (h : Cod cd n f V) : Typed .byte V := fun i v hv => by
  have hi : i < V.slots.size := (Array.getElem?_eq_some_iff.mp hv).1
  rcases h with ⟨-, k1, k2⟩ | ⟨-, k1, k2, -⟩
  · rw [(k2 i (by omega)).1] at hv; cases hv; exact fits_lo8 _
  · rcases Nat.mod_two_eq_zero_or_one i with e | e
    · obtain ⟨j, rfl⟩ : ∃ j, i = 2 * j := ⟨i / 2, by omega⟩
      rw [(k2 j (by omega)).1] at hv; cases hv; exact fits_lo8 _
    · obtain ⟨j, rfl⟩ : ∃ j, i = 2 * j + 1 := ⟨i / 2, by omega⟩
      rw [(k2 j (by omega)).2] at hv; cases hv; exact fits_lo8 _
/-- the same text -/
def SameT (n : Nat) (f : Nat → Int32) (k : Nat) (g : Nat → Int32) : Prop := n = k ∧ ∀ j, j < n → f j = g j
theorem lo8_inj {x y : Int32} (h0 : ¬ x < 0) (h1 : ¬ 255 < x) (k0 : ¬ y < 0) (k1 : ¬ 255 < y) (h : lo8 x = lo8 y) : x = y := by
  rw [← lo8_mask h0 h1, ← lo8_mask k0 k1, h]
/-- arrays coded by one coder are equal just where the texts are -/
theorem Cod.eqv {cd : Int32} {n k : Nat} {f g : Nat → Int32} {V V' : Cell} (h : Cod cd n f V) (h' : Cod cd k g V') (hf : ∀ j, j < n → ¬ f j < 0 ∧ ¬ 65535 < f j) (hg : ∀ j, j < k → ¬ g j < 0 ∧ ¬ 65535 < g j) : EqC V V' ↔ SameT n f k g := by
  have yvv : ∀ {W : Cell} {i : Nat} {x : Int32}, W.slots[i]? = some (.int x) → yv W i = x := fun q => by unfold yv; rw [q]
  rcases h with ⟨rfl, k1, k2⟩ | ⟨rfl, k1, k2, -⟩
  · rcases h' with ⟨-, m1, m2⟩ | ⟨e, -⟩
    · constructor
      · rintro ⟨e1, e2⟩
        refine ⟨by omega, fun j hj => ?_⟩
        have q := e2 j (by omega)
        rw [yvv (k2 j hj).1, yvv (m2 j (by omega)).1] at q
        exact lo8_inj (hf j hj).1 (k2 j hj).2 (hg j (by omega)).1 (m2 j (by omega)).2 q
      · rintro ⟨rfl, e2⟩
        refine ⟨by omega, fun j hj => ?_⟩
        rw [yvv (k2 j (by omega)).1, yvv (m2 j (by omega)).1, e2 j (by omega)]
    · exact absurd e (by decide)
  · rcases h' with ⟨e, -⟩ | ⟨-, m1, m2, -⟩
    · exact absurd e (by decide)
    · constructor
      · rintro ⟨e1, e2⟩
        refine ⟨by omega, fun j hj => ?_⟩
        have q1 := e2 (2 * j) (by omega)
        have q2 := e2 (2 * j + 1) (by omega)
        rw [yvv (k2 j hj).1, yvv (m2 j (by omega)).1] at q1
        rw [yvv (k2 j hj).2, yvv (m2 j (by omega)).2] at q2
        rw [← pair_says (hf j hj).1 (hf j hj).2, ← pair_says (hg j (by omega)).1 (hg j (by omega)).2, q1, q2]
      · rintro ⟨rfl, e2⟩
        refine ⟨by omega, fun i hi => ?_⟩
        rcases Nat.mod_two_eq_zero_or_one i with e | e
        · obtain ⟨j, rfl⟩ : ∃ j, i = 2 * j := ⟨i / 2, by omega⟩
          rw [yvv (k2 j (by omega)).1, yvv (m2 j (by omega)).1, e2 j (by omega)]
        · obtain ⟨j, rfl⟩ : ∃ j, i = 2 * j + 1 := ⟨i / 2, by omega⟩
          rw [yvv (k2 j (by omega)).2, yvv (m2 j (by omega)).2, e2 j (by omega)]
/-- two codings differ: so do the texts -/
theorem Cod.dif {cd cd' : Int32} {n k : Nat} {f g : Nat → Int32} {V V' : Cell} (h : Cod cd n f V) (h' : Cod cd' k g V') (hne : ¬ cd = cd') : ¬ SameT n f k g := by
  rintro ⟨rfl, e⟩
  rcases h with ⟨rfl, -, k2⟩ | ⟨rfl, -, -, j, hj, hw⟩
  · rcases h' with ⟨rfl, -⟩ | ⟨-, -, -, j, hj, hw⟩
    · exact hne rfl
    · exact (k2 j hj).2 (by rw [e j hj]; exact hw)
  · rcases h' with ⟨-, -, m2⟩ | ⟨rfl, -⟩
    · exact (m2 j hj).2 (by rw [← e j hj]; exact hw)
    · exact hne rfl
/-- an object of exactly C is an instance of C -/
theorem cinst {p : Program} {l : Launch} {e : Env} {R : Room} {s : State} {m : MethodId} {args : Array Value} {below : List Frame} {meth : Method} {c : Code} {T : State} {locs : List Loc} {cells slots : Nat} (X : Stand p l e R s m args below meth c T locs cells slots) (hexec : p.tables.exec = Jvm.exec) {own C : String} {index : Nat} (hown : s.vm.findClass own = some m.cls) (hlink : (Cond.classLink own index C).before args s = true) {a : Addr} (hE : Exact C a T)
    {g : JFrame} (hg : g.method = m) {rest : List Value} (hstack : g.stack = .ref a :: rest) (hdg : decode c.code g.pc = .ok (.instanceof index, 3)) :
    ∃ T', Stand p l e R s m args below meth c T' locs cells slots ∧ T'.heap = T.heap ∧ ∀ target, Steps p.tables e below (T'.setTop { g with pc := g.pc + 3, stack := .int 1 :: rest }) target → Steps p.tables e below (T.setTop g) target := by
  obtain ⟨cB, h1, D, h2, h3, h4⟩ := hE
  have h1' : s.vm.findClass C = some cB := by rw [← X.warmed.alike.findClass]; exact h1
  obtain ⟨vm', X', st⟩ := X.instanceofYes hexec hown hlink h2 h4 h1' (by rw [h3]; exact Jvm.Free.SB.assignable_self _ _) hg hstack hdg
  exact ⟨_, X', rfl, st⟩
theorem cself {p : Program} {l : Launch} {e : Env} {R : Room} {s : State} {m : MethodId} {args : Array Value} {below : List Frame} {meth : Method} {c : Code} {T : State} {locs : List Loc} {cells slots : Nat} (X : Stand p l e R s m args below meth c T locs cells slots) (hexec : p.tables.exec = Jvm.exec) {own C : String} {index : Nat} (hown : s.vm.findClass own = some m.cls) (hlink : (Cond.classLink own index C).before args s = true) {a : Addr} (hE : Exact C a T)
    {g : JFrame} (hg : g.method = m) {rest : List Value} (hstack : g.stack = .ref a :: rest) (hdg : decode c.code g.pc = .ok (.checkcast index, 3)) :
    ∃ T', Stand p l e R s m args below meth c T' locs cells slots ∧ T'.heap = T.heap ∧ ∀ target, Steps p.tables e below (T'.setTop { g with pc := g.pc + 3, stack := .ref a :: rest }) target → Steps p.tables e below (T.setTop g) target := by
  obtain ⟨cB, h1, D, h2, h3, h4⟩ := hE
  have h1' : s.vm.findClass C = some cB := by rw [← X.warmed.alike.findClass]; exact h1
  obtain ⟨vm', X', st⟩ := X.checkcastYes hexec hown hlink h2 h4 h1' (by rw [h3]; exact Jvm.Free.SB.assignable_self _ _) hg hstack hdg
  exact ⟨_, X', rfl, fun t h => st t (by rw [← hstack] at h; exact h)⟩
namespace SEq
def yN : MethodName := ⟨"java/lang/String", "equals", "(Ljava/lang/Object;)Z"⟩
abbrev yB : ByteArray := jdk_42_method_66_code
theorem d0 : decode yB 0 = .ok (.aload_n 0, 1) := by decide +kernel
theorem d1 : decode yB 1 = .ok (.aload_n 1, 1) := by decide +kernel
theorem d2 : decode yB 2 = .ok (.if_acmp (.ne) 5, 3) := by decide +kernel
theorem d5 : decode yB 5 = .ok (.iconst 1, 1) := by decide +kernel
theorem d6 : decode yB 6 = .ok (.ireturn, 1) := by decide +kernel
theorem d7 : decode yB 7 = .ok (.aload_n 1, 1) := by decide +kernel
theorem d8 : decode yB 8 = .ok (.instanceof 10, 3) := by decide +kernel
theorem d11 : decode yB 11 = .ok (.ifCond (.eq) 43, 3) := by decide +kernel
theorem d14 : decode yB 14 = .ok (.aload_n 1, 1) := by decide +kernel
theorem d15 : decode yB 15 = .ok (.checkcast 10, 3) := by decide +kernel
theorem d18 : decode yB 18 = .ok (.astore_n 2, 1) := by decide +kernel
theorem d19 : decode yB 19 = .ok (.getstatic 38, 3) := by decide +kernel
theorem d22 : decode yB 22 = .ok (.ifCond (.eq) 14, 3) := by decide +kernel
theorem d25 : decode yB 25 = .ok (.aload_n 0, 1) := by decide +kernel
theorem d26 : decode yB 26 = .ok (.getfield 15, 3) := by decide +kernel
theorem d29 : decode yB 29 = .ok (.aload_n 2, 1) := by decide +kernel
theorem d30 : decode yB 30 = .ok (.getfield 15, 3) := by decide +kernel
theorem d33 : decode yB 33 = .ok (.if_icmp (.ne) 21, 3) := by decide +kernel
theorem d36 : decode yB 36 = .ok (.aload_n 0, 1) := by decide +kernel
theorem d37 : decode yB 37 = .ok (.getfield 9, 3) := by decide +kernel
theorem d40 : decode yB 40 = .ok (.aload_n 2, 1) := by decide +kernel
theorem d41 : decode yB 41 = .ok (.getfield 9, 3) := by decide +kernel
theorem d44 : decode yB 44 = .ok (.invokestatic 541, 3) := by decide +kernel
theorem d47 : decode yB 47 = .ok (.ifCond (.eq) 7, 3) := by decide +kernel
theorem d50 : decode yB 50 = .ok (.iconst 1, 1) := by decide +kernel
theorem d51 : decode yB 51 = .ok (.goto 4, 3) := by decide +kernel
theorem d54 : decode yB 54 = .ok (.iconst 0, 1) := by decide +kernel
theorem d55 : decode yB 55 = .ok (.ireturn, 1) := by decide +kernel
def site : List Cond := [.classLink "java/lang/String" 10 "java/lang/String", .fieldLink "java/lang/String" 38 "java/lang/String" "COMPACT_STRINGS" "Z", .fieldLink "java/lang/String" 15 "java/lang/String" "coder" "B", .fieldLink "java/lang/String" 9 "java/lang/String" "value" "[B", LEq.tab] ++ staticW "java/lang/String" 541 LEq.yN
def tab : Cond := tabOf yN yB 3 (some .boolean) site
def P (x t : Addr) (V : Cell) (cd : Int32) (n : Nat) (f : Nat → Int32) (y t' : Addr) (V' : Cell) (cd' : Int32) (k : Nat) (g : Nat → Int32) (z : Int32) (args : Array Value) (s : State) : Prop := args = #[.ref x, .ref y] ∧ Txt x t V cd n f s ∧ Txt y t' V' cd' k g s ∧ StaticIs s "java/lang/String" "COMPACT_STRINGS" "Z" (.int z) ∧ ¬ z = 0
/-- equals(Object) of two Strings: whether the texts are the same -/
theorem law (l : Launch) (x t : Addr) (V : Cell) (cd : Int32) (n : Nat) (f : Nat → Int32) (y t' : Addr) (V' : Cell) (cd' : Int32) (k : Nat) (g : Nat → Int32) (z : Int32) : Law l yN 2 1 1 14 yB 3 (some .boolean) site (P x t V cd n f y t' V' cd' k g z) (Says01 (SameT n f k g)) [] 0 0 := by
  refine Law.of_walk (plainFor_of_name (by decide +kernel)) (by decide +kernel) (by decide +kernel) (by decide) (fun _ _ h => by rw [h.1]; rfl) (fun _ U U' hal hh h => ⟨h.1, h.2.1.mv hal hh, h.2.2.1.mv hal hh, h.2.2.2.1.there hal hh, h.2.2.2.2⟩) (fun r U U' V V' h1 hal h2 h => Says01.mv r U U' V V' h1 hal h2 h) ?_
  intro p e s m args below meth c s₁ X0 hexec hbytes hml hret hlk hnm hown hh0 W hP
  obtain ⟨rfl, hx, hy, s1, hz⟩ := hP
  have c1 : Steps p.tables e below (s₁.setTop (entryFrame m #[.ref x, .ref y] 3)) (s₁.setTop (mkF m 2 #[.val (.ref x), .val (.ref y), .unset] [.ref y, .ref x])) := Steps.trans (entry rfl) (by
    show Steps p.tables e below (s₁.setTop (mkF m 0 #[.val (.ref x), .val (.ref y), .unset] [])) _
    refine XS.aloadN X0.here hexec rfl (hb hbytes d0) rfl rfl ?_
    refine XS.aloadN X0.here hexec rfl (hb hbytes d1) rfl rfl ?_
    exact Steps.refl _)
  by_cases hxy : x = y
  · have c2 : Steps p.tables e below (s₁.setTop (entryFrame m #[.ref x, .ref y] 3)) (s₁.setTop (mkF m 6 #[.val (.ref x), .val (.ref y), .unset] [.int 1])) := c1.trans (by
      refine acmpNo X0.here hexec rfl (hb hbytes d2) rfl rfl rfl (by simp [acmp, hxy]) ?_
      refine iconstV X0.here hexec rfl 1 (hb hbytes d5) (by decide) ?_
      exact Steps.refl _)
    subst hxy
    have ec : cd = cd' := by
      obtain ⟨D, fd, a1, a2, a3⟩ := hx.2.2.1
      obtain ⟨D', fd', b1, b2, b3⟩ := hy.2.2.1
      cases a1.symm.trans b1
      obtain ⟨q1, q2, q3, q4⟩ := a2.1
      obtain ⟨r1, r2, r3, r4⟩ := b2.1
      cases q4.symm.trans r4
      cases a3.symm.trans b3; rfl
    have et : t = t' := by
      obtain ⟨D, fd, a1, a2, a3⟩ := hx.2.1
      obtain ⟨D', fd', b1, b2, b3⟩ := hy.2.1
      cases a1.symm.trans b1
      obtain ⟨q1, q2, q3, q4⟩ := a2.1
      obtain ⟨r1, r2, r3, r4⟩ := b2.1
      cases q4.symm.trans r4
      cases a3.symm.trans b3; rfl
    subst ec et
    have ev : V = V' := by cases hx.2.2.2.1.1.symm.trans hy.2.2.2.1.1; rfl
    subst ev
    have hs : SameT n f k g := (Cod.eqv hx.2.2.2.2.1 hy.2.2.2.2.1 hx.2.2.2.2.2 hy.2.2.2.2.2).mp ⟨rfl, fun _ _ => rfl⟩
    exact ⟨s₁, some (.int 1), _, _, _, X0, rfl, rfl, rfl, (fun h => by cases h), ⟨1, rfl, hh0, Or.inl ⟨rfl, hs⟩⟩, fun fs hl => c2.trans (X0.ireturnOut hexec hret rfl (Or.inr (Or.inl rfl)) (hb hbytes d6) hl)⟩
  · have c2 : Steps p.tables e below (s₁.setTop (entryFrame m #[.ref x, .ref y] 3)) (s₁.setTop (mkF m 8 #[.val (.ref x), .val (.ref y), .unset] [.ref y])) := c1.trans (by
      refine acmpYes X0.here hexec rfl (pc0 := 2) rfl (hb hbytes d2) rfl rfl rfl (by simp [acmp, hxy]) (by decide) rfl ?_
      refine XS.aloadN X0.here hexec rfl (hb hbytes d7) rfl rfl ?_
      exact Steps.refl _)
    obtain ⟨T3, X3, q3, st3⟩ := cinst X0 hexec hown (wk W (.classLink "java/lang/String" 10 "java/lang/String")) (hy.mv X0.warmed.alike hh0).1 (g := (mkF m 8 #[.val (.ref x), .val (.ref y), .unset] [.ref y])) rfl (rest := []) rfl (hb hbytes d8)
    have hh3 := q3.trans hh0
    have c4 : Steps p.tables e below (s₁.setTop (entryFrame m #[.ref x, .ref y] 3)) (T3.setTop (mkF m 15 #[.val (.ref x), .val (.ref y), .unset] [.ref y])) := (c2.trans (st3 _ (Steps.refl _))).trans (by
      refine XS.ifNo X3.here hexec rfl (hb hbytes d11) rfl (i0_eq_f (by decide)) ?_
      refine XS.aloadN X3.here hexec rfl (hb hbytes d14) rfl rfl ?_
      exact Steps.refl _)
    obtain ⟨T5, X5, q5, st5⟩ := cself X3 hexec hown (wk W (.classLink "java/lang/String" 10 "java/lang/String")) (hy.mv X3.warmed.alike hh3).1 (g := (mkF m 15 #[.val (.ref x), .val (.ref y), .unset] [.ref y])) rfl (rest := []) rfl (hb hbytes d15)
    have hh5 := q5.trans hh3
    have c6 : Steps p.tables e below (s₁.setTop (entryFrame m #[.ref x, .ref y] 3)) (T5.setTop (mkF m 19 #[.val (.ref x), .val (.ref y), .val (.ref y)] [])) := (c4.trans (st5 _ (Steps.refl _))).trans (by
      refine XS.astoreN X5.here hexec rfl (hb hbytes d18) rfl rfl rfl ?_
      exact Steps.refl _)
    obtain ⟨T7, X7, q7, st7⟩ := X5.sget hexec hown (wk W (.fieldLink "java/lang/String" 38 "java/lang/String" "COMPACT_STRINGS" "Z")) s1 (fun _ _ h => by rw [hh5]; exact h) (g := (mkF m 19 #[.val (.ref x), .val (.ref y), .val (.ref y)] [])) rfl (hb hbytes d19)
    have hh7 := q7.trans hh5
    have c8 : Steps p.tables e below (s₁.setTop (entryFrame m #[.ref x, .ref y] 3)) (T7.setTop (mkF m 26 #[.val (.ref x), .val (.ref y), .val (.ref y)] [.ref x])) := (c6.trans (st7 _ (Steps.refl _))).trans (by
      refine XS.ifNo X7.here hexec rfl (hb hbytes d22) rfl (i0_eq_f hz) ?_
      refine XS.aloadN X7.here hexec rfl (hb hbytes d25) rfl rfl ?_
      exact Steps.refl _)
    obtain ⟨T9, X9, q9, st9⟩ := X7.hget hexec hown (wk W (.fieldLink "java/lang/String" 15 "java/lang/String" "coder" "B")) (hx.mv X7.warmed.alike hh7).2.2.1 (g := (mkF m 26 #[.val (.ref x), .val (.ref y), .val (.ref y)] [.ref x])) rfl (rest := []) rfl (hb hbytes d26)
    have hh9 := q9.trans hh7
    have c10 : Steps p.tables e below (s₁.setTop (entryFrame m #[.ref x, .ref y] 3)) (T9.setTop (mkF m 30 #[.val (.ref x), .val (.ref y), .val (.ref y)] [.ref y, .int cd])) := (c8.trans (st9 _ (Steps.refl _))).trans (by
      refine XS.aloadN X9.here hexec rfl (hb hbytes d29) rfl rfl ?_
      exact Steps.refl _)
    obtain ⟨T11, X11, q11, st11⟩ := X9.hget hexec hown (wk W (.fieldLink "java/lang/String" 15 "java/lang/String" "coder" "B")) (hy.mv X9.warmed.alike hh9).2.2.1 (g := (mkF m 30 #[.val (.ref x), .val (.ref y), .val (.ref y)] [.ref y, .int cd])) rfl (rest := [.int cd]) rfl (hb hbytes d30)
    have hh11 := q11.trans hh9
    have c12 : Steps p.tables e below (s₁.setTop (entryFrame m #[.ref x, .ref y] 3)) (T11.setTop (mkF m 33 #[.val (.ref x), .val (.ref y), .val (.ref y)] [.int cd', .int cd])) := c10.trans (st11 _ (Steps.refl _))
    by_cases hcd : cd = cd'
    · subst hcd
      have c13 : Steps p.tables e below (s₁.setTop (entryFrame m #[.ref x, .ref y] 3)) (T11.setTop (mkF m 37 #[.val (.ref x), .val (.ref y), .val (.ref y)] [.ref x])) := c12.trans (by
        refine XS.icmpNo X11.here hexec rfl (hb hbytes d33) rfl (ii_ne_f rfl) ?_
        refine XS.aloadN X11.here hexec rfl (hb hbytes d36) rfl rfl ?_
        exact Steps.refl _)
      obtain ⟨T14, X14, q14, st14⟩ := X11.hget hexec hown (wk W (.fieldLink "java/lang/String" 9 "java/lang/String" "value" "[B")) (hx.mv X11.warmed.alike hh11).2.1 (g := (mkF m 37 #[.val (.ref x), .val (.ref y), .val (.ref y)] [.ref x])) rfl (rest := []) rfl (hb hbytes d37)
      have hh14 := q14.trans hh11
      have c15 : Steps p.tables e below (s₁.setTop (entryFrame m #[.ref x, .ref y] 3)) (T14.setTop (mkF m 41 #[.val (.ref x), .val (.ref y), .val (.ref y)] [.ref y, .ref t])) := (c13.trans (st14 _ (Steps.refl _))).trans (by
        refine XS.aloadN X14.here hexec rfl (hb hbytes d40) rfl rfl ?_
        exact Steps.refl _)
      obtain ⟨T16, X16, q16, st16⟩ := X14.hget hexec hown (wk W (.fieldLink "java/lang/String" 9 "java/lang/String" "value" "[B")) (hy.mv X14.warmed.alike hh14).2.1 (g := (mkF m 41 #[.val (.ref x), .val (.ref y), .val (.ref y)] [.ref y, .ref t])) rfl (rest := [.ref t]) rfl (hb hbytes d41)
      have hh16 := q16.trans hh14
      have c17 : Steps p.tables e below (s₁.setTop (entryFrame m #[.ref x, .ref y] 3)) (T16.setTop (mkF m 44 #[.val (.ref x), .val (.ref y), .val (.ref y)] [.ref t', .ref t])) := c15.trans (st16 _ (Steps.refl _))
      obtain ⟨v18, T18, X18, E18, g18⟩ := X16.callS hexec (LEq.law l t V t' V') hown (wks W (staticW "java/lang/String" 541 LEq.yN)) (wk W LEq.tab) (W := 0) (Nat.le_of_ble_eq_true rfl) (Nat.le_of_ble_eq_true rfl) (Nat.le_refl _) (Nat.le_refl _) (g := (mkF m 44 #[.val (.ref x), .val (.ref y), .val (.ref y)] [.ref t', .ref t])) rfl (by rw [hml]; rfl) c17 (argsL := [.ref t, .ref t']) (rest := []) rfl rfl (by show 2 * 0 + 0 ≤ _; decide) (hb hbytes d44) (⟨rfl, hx.2.2.2.1.mv X16.warmed.alike hh16, hx.2.2.2.2.1.ty, hy.2.2.2.1.mv X16.warmed.alike hh16, hy.2.2.2.2.1.ty⟩)
      obtain ⟨v, rfl, q18, hv⟩ := E18
      have iff := Cod.eqv hx.2.2.2.2.1 hy.2.2.2.2.1 hx.2.2.2.2.2 hy.2.2.2.2.2
      rcases hv with ⟨rfl, he⟩ | ⟨rfl, he⟩
      · have c19 : Steps p.tables e below (s₁.setTop (entryFrame m #[.ref x, .ref y] 3)) (T18.setTop (mkF m 55 #[.val (.ref x), .val (.ref y), .val (.ref y)] [.int 1])) := Steps.trans g18 (by
          refine XS.ifNo X18.here hexec rfl (hb hbytes d47) rfl (i0_eq_f (by decide)) ?_
          refine iconstV X18.here hexec rfl 1 (hb hbytes d50) (by decide) ?_
          refine XS.goto X18.here hexec rfl (pc0 := 51) rfl (hb hbytes d51) (by decide) rfl ?_
          exact Steps.refl _)
        exact ⟨T18, some (.int 1), _, _, _, X18, rfl, rfl, rfl, (fun h => by cases h), ⟨1, rfl, q18.trans hh16, Or.inl ⟨rfl, iff.mp he⟩⟩, fun fs hl => c19.trans (X18.ireturnOut hexec hret rfl (Or.inr (Or.inl rfl)) (hb hbytes d55) hl)⟩
      · have c19 : Steps p.tables e below (s₁.setTop (entryFrame m #[.ref x, .ref y] 3)) (T18.setTop (mkF m 55 #[.val (.ref x), .val (.ref y), .val (.ref y)] [.int 0])) := Steps.trans g18 (by
          refine XS.ifYes X18.here hexec rfl (pc0 := 47) rfl (hb hbytes d47) rfl (i0_eq_t rfl) (by decide) rfl ?_
          refine iconstV X18.here hexec rfl 0 (hb hbytes d54) (by decide) ?_
          exact Steps.refl _)
        exact ⟨T18, some (.int 0), _, _, _, X18, rfl, rfl, rfl, (fun h => by cases h), ⟨0, rfl, q18.trans hh16, Or.inr ⟨rfl, fun q => he (iff.mpr q)⟩⟩, fun fs hl => c19.trans (X18.ireturnOut hexec hret rfl (Or.inr (Or.inl rfl)) (hb hbytes d55) hl)⟩
    · have c13 : Steps p.tables e below (s₁.setTop (entryFrame m #[.ref x, .ref y] 3)) (T11.setTop (mkF m 55 #[.val (.ref x), .val (.ref y), .val (.ref y)] [.int 0])) := c12.trans (by
        refine XS.icmpYes X11.here hexec rfl (pc0 := 33) rfl (hb hbytes d33) rfl (ii_ne_t hcd) (by decide) rfl ?_
        refine iconstV X11.here hexec rfl 0 (hb hbytes d54) (by decide) ?_
        exact Steps.refl _)
      exact ⟨T11, some (.int 0), _, _, _, X11, rfl, rfl, rfl, (fun h => by cases h), ⟨0, rfl, hh11, Or.inr ⟨rfl, Cod.dif hx.2.2.2.2.1 hy.2.2.2.2.1 hcd⟩⟩, fun fs hl => c13.trans (X11.ireturnOut hexec hret rfl (Or.inr (Or.inl rfl)) (hb hbytes d55) hl)⟩
theorem pays {l : Launch} {R : Room} {p : Program} {e : Env} {below : List Frame} {s : State} {sargs : Array Value} {len W : Nat} (x t : Addr) (V : Cell) (cd : Int32) (n : Nat) (f : Nat → Int32) (y t' : Addr) (V' : Cell) (cd' : Int32) (k : Nat) (g : Nat → Int32) (z : Int32) (htab : tab.before sargs s = true) (hfr : 2 ≤ R.frames) (hlo : W + 28 ≤ R.locals) :
    Back l R p e below s sargs yN len W (fun A₁ a₁ => A₁.cells + 0 ≤ R.cells ∧ A₁.slots + 0 ≤ R.slots ∧ P x t V cd n f y t' V' cd' k g z a₁ A₁.U) (fun A₁ _ v₁ B₁ => Says01 (SameT n f k g) v₁ A₁.U B₁.U ∧ B₁.locs = A₁.locs ++ [] ∧ B₁.cells = A₁.cells + 0 ∧ B₁.slots = A₁.slots + 0) :=
  (law l x t V cd n f y t' V' cd' k g z).pays htab hfr (by omega)
end SEq
end StrChars
namespace StrChars.Road
open Jvm Sem ClassFile Op Lib Jvm.Stand Jvm.Free Jvm.Free.XT
open Jvm.Lib.Cold (StaticIs)
/-- the words of String.equals(Object) -/
abbrev wordsEq : List Jvm.Cond := [.code SEq.yN SEq.yB 3 (some .boolean), .initialized ST, .classLink ST 10 ST, .fieldLink ST 38 ST "COMPACT_STRINGS" "Z", .fieldLink ST 15 ST "coder" "B", .fieldLink ST 9 ST "value" "[B", .methodLink ST 541 LEq.yN, .static LEq.yN, .code LEq.yN LEq.yB 3 (some .boolean), .initialized "java/lang/StringLatin1"]
theorem tabEq_of {a : Array Value} {s : State} (h : ∀ w ∈ wordsEq, w.before a s = true) : SEq.tab.before a s = true := by
  have hl : LEq.tab.before a s = true := unparts (wk h (.code LEq.yN LEq.yB 3 (some .boolean))) (wks h (.initialized LEq.yN.cls :: LEq.site))
  have q := consq hl h
  exact unparts (wk q (.code SEq.yN SEq.yB 3 (some .boolean))) (wks q (.initialized SEq.yN.cls :: SEq.site))
theorem movedEq {Z s : State} {a0 args : Array Value} (hZ : Z.Warmed39 s.vm) (hw : ∀ d ∈ wordsEq, d.before a0 Z = true) : ∀ d ∈ wordsEq, d.before args s = true := fun d hd => by
  have t : ∀ d ∈ wordsEq, (d.onTables && d.keepsFace) = true := by decide +kernel
  exact RoadKit.mv hZ (hw d hd) (t d hd)
/-- the road's facts of a String, as the laws ask it -/
theorem txt_of {Z U : State} {a0 : Array Value} {kI : Nat} (wi : (Jvm.Cond.instantiable ST kI).before a0 Z = true) (al : Z.vm.Alike U.vm) {x t : Addr} {kb : ClassId} {cs : List Int32} {cd N2 : Int32} {vs : List Value} (E : RoadKit.Exa Z U.heap x ST) (V : RoadKit.Fld Z U.heap x ST "value" "[B" (.ref t)) (C : RoadKit.Fld Z U.heap x ST "coder" "B" (.int cd)) (K : RoadKit.Arv Z U.heap t kb .byte N2 vs (.int 0)) (hc : CodA cs cd N2 vs) (hb : ∀ c ∈ cs, ¬ c < 0 ∧ ¬ (65535 : Int32) < c) (l2 : cs.length ≤ 4000) :
    ∃ A, Txt x t A cd cs.length (fun j => cs.getD j 0) U := by
  obtain ⟨A, K1, K2, K3, K4, K5, K6⟩ := K
  have hcod := hc.cod (by omega) K3 K5
  obtain ⟨D, fV, fC, hB, F1, F2, g1, g2, -, -⟩ := strObj wi al E V C
  exact ⟨A, ⟨_, hB.2.2.1, D, hB.1, rfl, by cases q : D.vm <;> first | rfl | exact absurd q (hB.2.1.2 _)⟩, Has.of hB F1 g1, Has.of hB F2 g2, ⟨K1.1, State.isArrayOf_alike al K1.2.1, K1.2.2, by rcases hcod with ⟨-, q, -⟩ | ⟨-, q, -⟩ <;> omega⟩, hcod, fun j hj => by
    have e : cs.getD j 0 = cs[j] := by simp [List.getD_eq_getElem?_getD, hj]
    show ¬ cs.getD j 0 < 0 ∧ ¬ 65535 < cs.getD j 0
    rw [e]; exact hb _ (List.getElem_mem _)⟩
theorem same_list (cs ds : List Int32) : SameT cs.length (fun j => cs.getD j 0) ds.length (fun j => ds.getD j 0) ↔ cs = ds := by
  constructor
  · rintro ⟨e, q⟩
    refine List.ext_getElem e fun j h1 h2 => ?_
    have := q j h1
    simpa [List.getD_eq_getElem?_getD, h1, h2] using this
  · rintro rfl
    exact ⟨rfl, fun _ _ => rfl⟩
/-- **equals(Object) OF TWO SUCH STRINGS**: 1 just where the chars are the same -/
theorem eqW {p : Program} {l : Launch} {e : Env} {R : Room} {s : State} {args : Array Value} {below : List Frame} {len W : Nat} {Z : State} {a0 : Array Value} {h : Heap} (hZ : Z.Warmed39 s.vm) (hw : ∀ d ∈ wordsEq, d.before a0 Z = true) {kI : Nat} (wi : (Jvm.Cond.instantiable ST kI).before a0 Z = true)
    {x t : Addr} {kb : ClassId} {cs : List Int32} {cd N2 : Int32} {vs : List Value} (E : RoadKit.Exa Z h x ST) (V : RoadKit.Fld Z h x ST "value" "[B" (.ref t)) (C : RoadKit.Fld Z h x ST "coder" "B" (.int cd)) (K : RoadKit.Arv Z h t kb .byte N2 vs (.int 0)) (hc : CodA cs cd N2 vs) (hb : ∀ c ∈ cs, ¬ c < 0 ∧ ¬ (65535 : Int32) < c) (l2 : cs.length ≤ 4000)
    {y t' : Addr} {kb' : ClassId} {ds : List Int32} {cd' N2' : Int32} {vs' : List Value} (E' : RoadKit.Exa Z h y ST) (V' : RoadKit.Fld Z h y ST "value" "[B" (.ref t')) (C' : RoadKit.Fld Z h y ST "coder" "B" (.int cd')) (K' : RoadKit.Arv Z h t' kb' .byte N2' vs' (.int 0)) (hc' : CodA ds cd' N2' vs') (hb' : ∀ c ∈ ds, ¬ c < 0 ∧ ¬ (65535 : Int32) < c) (l2' : ds.length ≤ 4000)
    {z : Int32} (S : RoadKit.Sta Z h ST "COMPACT_STRINGS" "Z" (.int z)) (hz : ¬ z = 0) (hfr : 2 ≤ R.frames) (hlo : W + 28 ≤ R.locals) :
    Back l R p e below s args (⟨"java/lang/String", "equals", "(Ljava/lang/Object;)Z"⟩ : MethodName) len W (fun P a => a = #[.ref x, .ref y] ∧ P.U.heap = h ∧ P.cells + 0 ≤ R.cells ∧ P.slots + 0 ≤ R.slots)
      (fun P _ v B => ∃ L, (((v = some (.int 1) ∧ cs = ds) ∨ (v = some (.int 0) ∧ ¬ cs = ds)) ∧ L = [] ∧ B.U.heap = h) ∧ B.locs = P.locs ++ L ∧ B.cells = P.cells + 0 ∧ B.slots = P.slots + 0) := by
  intro m meth c P g ig mk a X hg hsize hdg hW hn hp'
  obtain ⟨rfl, rfl, r1, r2⟩ := hp'
  have al : Z.vm.Alike P.U.vm := hZ.alike.trans X.warmed.alike
  obtain ⟨A, hx⟩ := txt_of wi al E V C K hc hb l2
  obtain ⟨A', hy⟩ := txt_of wi al E' V' C' K' hc' hb' l2'
  obtain ⟨v, B, X', ⟨⟨w, hv, hh, hq⟩, hl, hk, hs⟩, st⟩ := SEq.pays x t A cd cs.length (fun j => cs.getD j 0) y t' A' cd' ds.length (fun j => ds.getD j 0) z (tabEq_of (movedEq hZ hw)) hfr hlo m meth c P g ig mk _ X hg hsize hdg hW hn ⟨r1, r2, rfl, hx, hy, sta_is al S, hz⟩
  refine ⟨v, B, X', ⟨[], ⟨?_, rfl, hh⟩, hl, hk, hs⟩, st⟩
  rcases hq with ⟨rfl, q⟩ | ⟨rfl, q⟩
  · exact Or.inl ⟨hv, (same_list cs ds).mp q⟩
  · exact Or.inr ⟨hv, fun e => q ((same_list cs ds).mpr e)⟩
end StrChars.Road
namespace StrChars.Road
open Jvm Sem ClassFile Op Lib Jvm.Stand Jvm.Free Jvm.Free.XT
open Jvm.Lib.Cold (StaticIs)
/-- what backV says of its String, as the contracts of this text ask it: cs's low bytes, coder 0 -/
theorem codOf {cs : List Int32} {n : Nat} (hn : cs.length = n) (hb : ∀ c ∈ cs, ¬ 255 < c) : CodA cs 0 (Int32.ofNat n) ((cs.map lo8).map Value.int) := Or.inl ⟨rfl, by rw [hn], by simp [List.map_map, Function.comp_def], hb⟩
end StrChars.Road
end Jvm.Pilot.@@N@@
namespace Jvm.Pilot.@@N@@
open Jvm Jvm.ClassFile Sem Op Lib Jvm.Free Jvm.Stand Jvm.LawKit Jvm.RoadKit Bundle Jvm.Pilot.@@N@@.Jvm.D
theorem own_w {Z : State} {a0 : Array Value} {d : Jvm.Cond} (hw : ∀ d ∈ tables_1, d.before a0 Z = true) (i : Nat) (h : tables_1[i]? = some d) : d.before a0 Z = true := hw d (List.mem_of_getElem? h)
section OwnKit
variable {p : Program} {l : Launch} {e : Env} {R : Room} {s : State} {m : MethodId} {args : Array Value} {below : List Frame} {meth : Method} {c : Code} {T : State} {locs : List Loc} {cells slots : Nat}
/-- the run from S comes to an end of which Q holds -/
def own_Go (p : Program) (e : Env) (below : List Frame) (Q : Outcome → State → Prop) (S : State) : Prop := ∃ s₂ o, Steps p.tables e below S s₂ ∧ s₂.status = .running ∧ Ended s₂ below o ∧ Q o s₂
theorem own_via {Q : Outcome → State → Prop} {A B : State} (h : ∀ t, Steps p.tables e below B t → Steps p.tables e below A t) (g : own_Go p e below Q B) : own_Go p e below Q A := by
  obtain ⟨s2, o, h1, r⟩ := g
  exact ⟨s2, o, h _ h1, r⟩
theorem own_seq {Q : Outcome → State → Prop} {A B : State} (h : own_Go p e below Q B → own_Go p e below Q A) (k : own_Go p e below Q B) : own_Go p e below Q A := h k
theorem own_cast {Q : Outcome → State → Prop} {g g' : JFrame} (q : g = g') (k : own_Go p e below Q (T.setTop g')) : own_Go p e below Q (T.setTop g) := q ▸ k
theorem own_keep_mono {h0 h : Heap} {ws ws' : List Addr} (K : Keep h0 h ws) (q : ∀ x ∈ ws, x ∈ ws') : Keep h0 h ws' := ⟨K.1, fun x c a b => K.2.1 x c a fun z => b (q x z), K.2.2⟩
theorem own_ret0 {Qv : Option Value → Heap → List Loc → Prop} {kc ks : Nat} (X : Stand p l e R s m args below meth c T locs cells slots) (hlocks : meth.locks = false) (hx : p.tables.exec = Jvm.exec) {pc : Nat} {Ls : Array Slot} (hret : meth.sig.returnType = none) (hd : decode c.code pc = .ok (.return_, 1)) (hk : cells ≤ kc) (hs : slots ≤ ks) (hQ : Qv none T.heap locs) :
    own_Go p e below (fun o U' => ∃ v L, o = .returned v ∧ Qv v U'.heap L ∧ FrameEnd s o U' L kc ks) (T.setTop (mkF m pc Ls [])) := by
  obtain ⟨fs, hr, hrun, hended, hW, hsame⟩ := X.leave (v := none) (fun _ => rfl) hlocks
  exact ⟨_, _, X.returnOut hx hret hd hr, hrun, hended, _, _, rfl, hQ, ⟨_, rfl⟩, hW, hsame.mono hk hs⟩
theorem own_retv {Qv : Option Value → Heap → List Loc → Prop} {kc ks : Nat} (X : Stand p l e R s m args below meth c T locs cells slots) (hlocks : meth.locks = false) (hx : p.tables.exec = Jvm.exec) {pc : Nat} {Ls : Array Slot} {w : Value} {t : FieldType} {i : Instr} {rest : List Value} (hret : meth.sig.returnType = some t) (hn : narrow t w = w)
    (hi : (i = .ireturn ∧ (t = .int ∨ t = .boolean ∨ t = .byte ∨ t = .char ∨ t = .short) ∧ ∃ z, w = .int z) ∨ (i = .lreturn ∧ t = .long ∧ ∃ z, w = .long z) ∨ (i = .dreturn ∧ t = .double ∧ ∃ z, w = .double z) ∨ (i = .freturn ∧ t = .float ∧ ∃ z, w = .float z) ∨ (i = .areturn ∧ t.isReference = true ∧ w.isRef = true))
    (hd : decode c.code pc = .ok (i, 1)) (hk : cells ≤ kc) (hs : slots ≤ ks) (hQ : Qv (some w) T.heap locs) :
    own_Go p e below (fun o U' => ∃ v L, o = .returned v ∧ Qv v U'.heap L ∧ FrameEnd s o U' L kc ks) (T.setTop (mkF m pc Ls (w :: rest))) := by
  obtain ⟨fs, hr, hrun, hended, hW, hsame⟩ := X.leave (v := some w) (fun h => by rw [hret] at h; cases h) hlocks
  exact ⟨_, _, retOut X hx hret hn hi hd hr, hrun, hended, _, _, rfl, hQ, ⟨_, rfl⟩, hW, hsame.mono hk hs⟩
theorem own_pop2L {tb : Tables} [Ours tb] {e : Env} {below : List Frame} {T target : State} {m : MethodId} {c : Code} {g : JFrame} (h : At T m c below) (hx : tb.exec = Jvm.exec) (hg : g.method = m) {x : Int64} {rest : List Value} (hd : decode c.code g.pc = .ok (.pop2, 1)) (hs : g.stack = .long x :: rest)
    (hr : Steps tb e below (T.setTop { g with pc := g.pc + 1, stack := rest }) target) : Steps tb e below (T.setTop g) target := by
  subst hg
  jvm_step h [h.top, hx, hd, hs, Value.category]
  exact hr
theorem own_narR {t : FieldType} {w : Value} (h : w.isRef = true) : narrow t w = w := by
  rcases ref_cases h with rfl | ⟨y, rfl⟩ <;> cases t <;> rfl
theorem own_fitR {C : String} {w : Value} (h : w.isRef = true) : fits (.object C) w = true := by
  rcases ref_cases h with rfl | ⟨y, rfl⟩ <;> rfl
theorem own_fitA {t : FieldType} {w : Value} (h : w.isRef = true) : fits (.array t) w = true := by
  rcases ref_cases h with rfl | ⟨y, rfl⟩ <;> rfl
end OwnKit

section OwnCold
variable {p : Program} {l : Launch} {e : Env} {R : Room} {s : State} {m : MethodId} {args : Array Value} {below : List Frame} {meth : Method} {c : Code} {T : State} {locs : List Loc} {cells slots : Nat} {Z : State} {a0 : Array Value} {h : Heap}
/-- a callee that may load a String constant for the first time; J: a word on the tables at its start; Q speaks of the tables at its end too -/
theorem own_backS {y : MethodName} {bytes : ByteArray} {maxL : Nat} {ret : Option FieldType} {rm : Room} {len W : Nat} {as' : Array Value} {J : Vm → Prop} {Q : Option Value → Heap → List Loc → Vm → Prop}
    (hM : MetFree l y (head1 [Cond.code y bytes maxL ret] rm) (fun a U => a = as' ∧ Z.Warmed39 U.vm ∧ U.heap = h ∧ J U.vm) (fun _ _ _ _ _ => True) (fun _ U o U' => ∃ v L, o = .returned v ∧ Q v U'.heap L U'.vm ∧ ReturnedEndW U o U' L rm.cells rm.slots))
    (hZ : Z.Warmed39 s.vm) (wc : (Cond.code y bytes maxL ret).before a0 Z = true) (wz : (Cond.initialized y.cls).before a0 Z = true) (hf : rm.frames + 1 ≤ R.frames) (hl : W + (maxL + 11) + rm.locals ≤ R.locals) :
    BackS l R p e below s args y len W (fun A a => a = as' ∧ A.U.heap = h ∧ J A.U.vm ∧ A.cells + rm.cells ≤ R.cells ∧ A.slots + rm.slots ≤ R.slots)
      (fun A _ v B => ∃ L, Q v B.U.heap L B.U.vm ∧ B.locs = A.locs ++ L ∧ B.cells = A.cells + rm.cells ∧ B.slots = A.slots + rm.slots) := by
  refine BackS.of_freeW (bytes := bytes) (maxL := maxL) (ret := ret) (E := fun _ _ o t L k n => k = rm.cells ∧ n = rm.slots ∧ ∃ v, o = .returned v ∧ Q v t.heap L t.vm) hM hf hl ?_ ?_ ?_ ?_ ?_
  · intro m meth c A a Y hp
    have hU : Z.Warmed39 A.U.vm := wtrans hZ Y.warmed
    refine ⟨?_, mv hU wc, mv hU wz, hp.2.2.2.1, hp.2.2.2.2⟩
    show (Cond.and _ .tt).before a A.U = true
    rw [Cond.before_and, mv hU wc]; rfl
  · intro m meth c A a g mk Y hp
    exact ⟨hp.1, wtrans hZ Y.warmed, hp.2.1, hp.2.2.1⟩
  · intros; trivial
  · rintro _ _ _ _ ⟨v, L, h1, h2, h3⟩
    exact ⟨L, _, _, h3, rfl, rfl, v, h1, h2⟩
  · rintro m meth c A a g mk v t L k n Y hp - - ⟨e1, e2, v', e3, e4⟩
    cases e3; subst e1 e2
    exact ⟨L, e4, rfl, rfl, rfl⟩
theorem own_ret0W {Qv : Option Value → Heap → List Loc → Vm → Prop} {kc ks : Nat} {vm0 : Vm} {k0 : Nat} (X : Stand p l e R (s.setVm vm0) m args below meth c T locs cells slots) (hS : s.Since vm0 k0) (hk0 : k0 ≤ T.heap.size) (hlocks : meth.locks = false) (hx : p.tables.exec = Jvm.exec) {pc : Nat} {Ls : Array Slot} (hret : meth.sig.returnType = none) (hd : decode c.code pc = .ok (.return_, 1)) (hk : cells ≤ kc) (hs : slots ≤ ks) (hQ : Qv none T.heap locs T.vm) :
    own_Go p e below (fun o U' => ∃ v L, o = .returned v ∧ Qv v U'.heap L U'.vm ∧ ReturnedEndW s o U' L kc ks) (T.setTop (mkF m pc Ls [])) := by
  obtain ⟨fs, hr, hrun, hended, hE⟩ := X.leaveW hS hk0 (v := none) (fun _ => rfl) hlocks
  exact ⟨_, _, X.returnOut hx hret hd hr, hrun, hended, _, _, rfl, hQ, hE.1, hE.2.1, hE.2.2.1, hE.2.2.2.mono hk hs⟩
theorem own_retvW {Qv : Option Value → Heap → List Loc → Vm → Prop} {kc ks : Nat} {vm0 : Vm} {k0 : Nat} (X : Stand p l e R (s.setVm vm0) m args below meth c T locs cells slots) (hS : s.Since vm0 k0) (hk0 : k0 ≤ T.heap.size) (hlocks : meth.locks = false) (hx : p.tables.exec = Jvm.exec) {pc : Nat} {Ls : Array Slot} {w : Value} {t : FieldType} {i : Instr} {rest : List Value} (hret : meth.sig.returnType = some t) (hn : narrow t w = w)
    (hi : (i = .ireturn ∧ (t = .int ∨ t = .boolean ∨ t = .byte ∨ t = .char ∨ t = .short) ∧ ∃ z, w = .int z) ∨ (i = .lreturn ∧ t = .long ∧ ∃ z, w = .long z) ∨ (i = .dreturn ∧ t = .double ∧ ∃ z, w = .double z) ∨ (i = .freturn ∧ t = .float ∧ ∃ z, w = .float z) ∨ (i = .areturn ∧ t.isReference = true ∧ w.isRef = true))
    (hd : decode c.code pc = .ok (i, 1)) (hk : cells ≤ kc) (hs : slots ≤ ks) (hQ : Qv (some w) T.heap locs T.vm) :
    own_Go p e below (fun o U' => ∃ v L, o = .returned v ∧ Qv v U'.heap L U'.vm ∧ ReturnedEndW s o U' L kc ks) (T.setTop (mkF m pc Ls (w :: rest))) := by
  obtain ⟨fs, hr, hrun, hended, hE⟩ := X.leaveW hS hk0 (v := some w) (fun h => by rw [hret] at h; cases h) hlocks
  exact ⟨_, _, retOut X hx hret hn hi hd hr, hrun, hended, _, _, rfl, hQ, hE.1, hE.2.1, hE.2.2.1, hE.2.2.2.mono hk hs⟩
end OwnCold

theorem own_wS {Z : State} {a0 : Array Value} (hw : ∀ d ∈ tables_1, d.before a0 Z = true) : ∀ a ∈ Bundle.stringAtoms, a.before a0 Z = true := by
  intro d hd
  simp only [Bundle.stringAtoms, List.mem_cons, List.not_mem_nil, or_false] at hd
  rcases hd with rfl | rfl | rfl | rfl | rfl | rfl | rfl
  · exact (own_w hw 11 rfl)
  · exact (own_w hw 10 rfl)
  · exact (own_w hw 27 rfl)
  · exact (own_w hw 37 rfl)
  · exact (own_w hw 35 rfl)
  · exact (own_w hw 54 rfl)
  · exact (own_w hw 55 rfl)
theorem own_hwords {Z : State} {a0 : Array Value} (hw : ∀ d ∈ tables_1, d.before a0 Z = true) : ∀ d ∈ StrChars.Road.words, d.before a0 Z = true := fun d hd => hw d ((by decide +kernel : ∀ d ∈ StrChars.Road.words, d ∈ tables_1) d hd)
theorem own_hwordsEq {Z : State} {a0 : Array Value} (hw : ∀ d ∈ tables_1, d.before a0 Z = true) : ∀ d ∈ StrChars.Road.wordsEq, d.before a0 Z = true := fun d hd => hw d ((by decide +kernel : ∀ d ∈ StrChars.Road.wordsEq, d ∈ tables_1) d hd)
/-- a String of known chars, each 0 to 255 -/
def own_Str (Z : State) (h : Heap) (a : Addr) (cs : List Int32) : Prop := Exa Z h a "java/lang/String" ∧ Fld Z h a "java/lang/String" "coder" "B" (.int 0) ∧ (∃ (t : Addr) (k : ClassId), Fld Z h a "java/lang/String" "value" "[B" (.ref t) ∧ Arv Z h t k .byte (Int32.ofNat cs.length) ((cs.map fun c => c.toInt8.toInt32).map Value.int) (.int 0)) ∧ (∀ c ∈ cs, ¬ c < 0 ∧ ¬ (255 : Int32) < c) ∧ cs.length ≤ 4000
theorem own_Str.keep0 {Z : State} {h h' : Heap} {a : Addr} {cs : List Int32} (F : own_Str Z h a cs) (K : Keep h h' []) : own_Str Z h' a cs := by
  obtain ⟨E, C, ⟨t, k, V, A⟩, r⟩ := F
  exact ⟨E.keep K, C.keep K nin0, ⟨t, k, V.keep K nin0, A.keep K nin0⟩, r⟩
/-- the cells at ws are objects, no Strings -/
def own_Off (Z : State) (h : Heap) (ws : List Addr) : Prop := ∀ b ∈ ws, ∃ (C : String) (n : Nat) (a0 : Array Value), Exa Z h b C ∧ C ≠ "java/lang/String" ∧ (Jvm.Cond.instantiable C n).before a0 Z = true
theorem own_off0 {Z : State} {h : Heap} : own_Off Z h [] := fun _ q => nomatch q
theorem own_offS {Z : State} {h : Heap} {b : Addr} {ws : List Addr} {C : String} {n : Nat} {a0 : Array Value} (E : Exa Z h b C) (hn : C ≠ "java/lang/String") (wi : (Jvm.Cond.instantiable C n).before a0 Z = true) (r : own_Off Z h ws) : own_Off Z h (b :: ws) := fun x q => (List.mem_cons.mp q).elim (fun u => u ▸ ⟨C, n, a0, E, hn, wi⟩) (r x)
theorem own_Str.keepO {Z : State} {h h' : Heap} {a : Addr} {cs : List Int32} {ws : List Addr} (F : own_Str Z h a cs) (K : Keep h h' ws) (O : own_Off Z h ws) : own_Str Z h' a cs := by
  obtain ⟨E, C, ⟨t, k, V, A⟩, r⟩ := F
  have na : a ∉ ws := fun q => by
    obtain ⟨D, n, a0, E', hn, wi⟩ := O a q
    exact Exa.ne E' E hn rfl
  have nt : t ∉ ws := fun q => by
    obtain ⟨D, n, a0, E', hn, wi⟩ := O t q
    exact Exa.neArv E' A wi rfl
  exact ⟨E.keep K, C.keep K na, ⟨t, k, V.keep K na, A.keep K nt⟩, r⟩
theorem own_up {cs : List Int32} (h : ∀ c ∈ cs, ¬ c < 0 ∧ ¬ (255 : Int32) < c) : ∀ c ∈ cs, ¬ c < 0 ∧ ¬ (65535 : Int32) < c := fun c hc => ⟨(h c hc).1, fun q => (h c hc).2 (by rw [Int32.lt_iff_toInt_lt] at q ⊢; have e1 : (65535 : Int32).toInt = 65535 := rfl; have e2 : (255 : Int32).toInt = 255 := rfl; omega)⟩
theorem own_255 {z : Int32} (h : ¬ z < 0 ∧ ¬ (255 : Int32) < z) : ∃ k : Fin 256, z = Int32.ofNat k.val := by
  obtain ⟨h1, h2⟩ := h
  rw [Int32.lt_iff_toInt_lt] at h1 h2
  have e1 : (0 : Int32).toInt = 0 := rfl
  have e2 : (255 : Int32).toInt = 255 := rfl
  refine ⟨⟨z.toInt.toNat, by omega⟩, ?_⟩
  apply Int32.toInt_inj.mp
  rw [Int32.toInt_ofNat_small (by show z.toInt.toNat < _; omega)]
  show _ = ((z.toInt.toNat : Nat) : Int)
  omega
theorem own_nar {z : Int32} (h : ¬ z < 0 ∧ ¬ (255 : Int32) < z) : nar .char z = z := by
  obtain ⟨k, rfl⟩ := own_255 h
  exact (by decide +kernel : ∀ k : Fin 256, nar .char (Int32.ofNat k.val) = Int32.ofNat k.val) k
theorem own_narV {z : Int32} (h : ¬ z < 0 ∧ ¬ (255 : Int32) < z) : narrow .char (.int z) = .int z := congrArg Value.int (own_nar h)

theorem own_EW {Z : State} {a0 : Array Value} (hw : ∀ d ∈ tables_1, d.before a0 Z = true) : EW Z a0 consts_1 := (EW.cons (own_w hw 53 rfl) (by decide) (EW.cons (own_w hw 67 rfl) (by decide) (EW.cons (own_w hw 68 rfl) (by decide) EW.nil)))
theorem own_CHstay {Z s : State} {a0 : Array Value} {EL : List (String × Nat)} {h : Heap} {vm0 vm1 : Vm} (H : CHv Z EL vm0 h) (hZ : Z.Warmed39 vm0) (w : EW Z a0 EL) (hW : (s.setVm vm0).WarmedH vm1) : CHv Z EL vm1 h :=
  (CHv.later (h' := h) hZ (hW := (show (Wst Z vm0 h).Warmed39 vm1 from hW.wide)) w ⟨Nat.le_refl _, fun _ _ q => q⟩ (Or.inl hW.interned_eq) H).1
theorem own_Sfstay {Z s : State} {a0 : Array Value} {EL : List (String × Nat)} {h : Heap} {vm0 vm1 : Vm} {x : Addr} (H : CHv Z EL vm0 h) (hZ : Z.Warmed39 vm0) (w : EW Z a0 EL) (hW : (s.setVm vm0).WarmedH vm1) (hx : x < h.size) (S : Safe Z EL vm0 h x) : Safe Z EL vm1 h x := fun B =>
  ((CHv.later (h' := h) hZ (hW := (show (Wst Z vm0 h).Warmed39 vm1 from hW.wide)) w ⟨Nat.le_refl _, fun _ _ q => q⟩ (Or.inl hW.interned_eq) H).2 x B).elim S fun q => absurd hx (Nat.not_lt.mpr q)
theorem own_SfArv {Z : State} {EL : List (String × Nat)} {vm : Vm} {h : Heap} {a : Addr} {k : ClassId} {ty : FieldType} {z : Int32} {vs : List Value} {d : Value} (hal : Z.vm.Alike vm) (A : Arv Z h a k ty z vs d) (ht : ty ≠ .byte) : Safe Z EL vm h a := by
  obtain ⟨c, A, -⟩ := A
  exact Safe.arr hal A ht

theorem own_chars (x : Int32) : ¬ nar .char ((x &&& (255 : Int32)).toUInt32.toUInt16.toUInt32.toInt32) < 0 ∧ ¬ (255 : Int32) < nar .char ((x &&& (255 : Int32)).toUInt32.toUInt16.toUInt32.toInt32) := by
  have t : ∀ k : Fin 256, ¬ nar .char ((Int32.ofNat k.val).toUInt32.toUInt16.toUInt32.toInt32) < 0 ∧ ¬ (255 : Int32) < nar .char ((Int32.ofNat k.val).toUInt32.toUInt16.toUInt32.toInt32) := by decide +kernel
  have h : (x &&& 255).toBitVec.toNat < 256 := by
    simp only [Int32.toBitVec_and, BitVec.toNat_and]
    exact Nat.lt_succ_of_le Nat.and_le_right
  have e : (x &&& 255) = Int32.ofNat (x &&& 255).toBitVec.toNat := by
    apply Int32.toBitVec_inj.mp
    show _ = BitVec.ofNat 32 _
    rw [BitVec.ofNat_toNat]; simp
  rw [e]
  exact t ⟨_, h⟩
theorem own_byte (x : Int32) : ¬ ((255 : Int32) < ((x &&& (255 : Int32)).toUInt32.toUInt16.toUInt32.toInt32)) := by
  have t : ∀ k : Fin 256, ¬ (255 : Int32) < ((Int32.ofNat k.val).toUInt32.toUInt16.toUInt32.toInt32) := by decide +kernel
  have h : (x &&& 255).toBitVec.toNat < 256 := by
    simp only [Int32.toBitVec_and, BitVec.toNat_and]
    exact Nat.lt_succ_of_le Nat.and_le_right
  have e : (x &&& 255) = Int32.ofNat (x &&& 255).toBitVec.toNat := by
    apply Int32.toBitVec_inj.mp
    show _ = BitVec.ofNat 32 _
    rw [BitVec.ofNat_toNat]; simp
  rw [e]
  exact t ⟨_, h⟩

theorem own_chL (x : Int64) : ¬ ((x &&& (255 : Int64)).toInt32.toUInt32.toUInt16.toUInt32.toInt32) < 0 ∧ ¬ (255 : Int32) < ((x &&& (255 : Int64)).toInt32.toUInt32.toUInt16.toUInt32.toInt32) := by
  have t : ∀ k : Fin 256, ¬ ((Int64.ofNat k.val).toInt32.toUInt32.toUInt16.toUInt32.toInt32) < 0 ∧ ¬ (255 : Int32) < ((Int64.ofNat k.val).toInt32.toUInt32.toUInt16.toUInt32.toInt32) := by decide +kernel
  have h : (x &&& 255).toBitVec.toNat < 256 := by
    simp only [Int64.toBitVec_and, BitVec.toNat_and]
    exact Nat.lt_succ_of_le Nat.and_le_right
  have e : (x &&& 255) = Int64.ofNat (x &&& 255).toBitVec.toNat := by
    apply Int64.toBitVec_inj.mp
    show _ = BitVec.ofNat 64 _
    rw [BitVec.ofNat_toNat]; simp
  rw [e]
  exact t ⟨_, h⟩

theorem own_and7 (x : Int32) : x &&& 7 = 0 ∨ x &&& 7 = 1 ∨ x &&& 7 = 2 ∨ x &&& 7 = 3 ∨ x &&& 7 = 4 ∨ x &&& 7 = 5 ∨ x &&& 7 = 6 ∨ x &&& 7 = 7 := by
  have t : ∀ k : Fin 8, Int32.ofNat k.val = 0 ∨ Int32.ofNat k.val = 1 ∨ Int32.ofNat k.val = 2 ∨ Int32.ofNat k.val = 3 ∨ Int32.ofNat k.val = 4 ∨ Int32.ofNat k.val = 5 ∨ Int32.ofNat k.val = 6 ∨ Int32.ofNat k.val = 7 := by decide +kernel
  have h : (x &&& 7).toBitVec.toNat < 8 := by
    simp only [Int32.toBitVec_and, BitVec.toNat_and]
    exact Nat.lt_succ_of_le Nat.and_le_right
  have e : (x &&& 7) = Int32.ofNat (x &&& 7).toBitVec.toNat := by
    apply Int32.toBitVec_inj.mp
    show _ = BitVec.ofNat 32 _
    rw [BitVec.ofNat_toNat]; simp
  rw [e]
  exact t ⟨_, h⟩
theorem own_len {A B C : Prop} [Decidable A] [Decidable B] [Decidable C] {x z : Int32} (e : z = if A then (x &&& 7) else (if B then 3 else (if C then 7 else (x &&& 7)))) : z = 0 ∨ z = 1 ∨ z = 2 ∨ z = 3 ∨ z = 4 ∨ z = 5 ∨ z = 6 ∨ z = 7 := by
  subst e
  by_cases a : A <;> by_cases b : B <;> by_cases d : C <;> simp [a, b, d] <;> exact own_and7 x
theorem own_mod7 (x : Int32) : (x &&& 2147483647) % 7 = 0 ∨ (x &&& 2147483647) % 7 = 1 ∨ (x &&& 2147483647) % 7 = 2 ∨ (x &&& 2147483647) % 7 = 3 ∨ (x &&& 2147483647) % 7 = 4 ∨ (x &&& 2147483647) % 7 = 5 ∨ (x &&& 2147483647) % 7 = 6 := by
  have hn : 0 ≤ (x &&& 2147483647).toInt := by
    show 0 ≤ (x &&& 2147483647).toBitVec.toInt
    rw [BitVec.toInt_eq_toNat_of_lt]
    · exact Int.natCast_nonneg _
    · rw [Int32.toBitVec_and, BitVec.toNat_and]
      have := @Nat.and_le_right x.toBitVec.toNat (2147483647 : Int32).toBitVec.toNat
      have e : (2147483647 : Int32).toBitVec.toNat = 2147483647 := by decide
      omega
  generalize (x &&& 2147483647) = y at hn
  have h : (y % 7).toInt = y.toInt.tmod 7 := by rw [Int32.toInt_mod]; rfl
  have h1 := Int.tmod_lt_of_pos y.toInt (show (0:Int) < 7 by decide)
  have h2 := Int.tmod_nonneg 7 hn
  have key : ∀ k : Int32, (y % 7).toInt = k.toInt → y % 7 = k := fun k e => Int32.toInt_inj.mp e
  have hc : (y % 7).toInt = 0 ∨ (y % 7).toInt = 1 ∨ (y % 7).toInt = 2 ∨ (y % 7).toInt = 3 ∨ (y % 7).toInt = 4 ∨ (y % 7).toInt = 5 ∨ (y % 7).toInt = 6 := by omega
  rcases hc with e | e | e | e | e | e | e
  · exact Or.inl (key 0 e)
  · exact Or.inr (Or.inl (key 1 e))
  · exact Or.inr (Or.inr (Or.inl (key 2 e)))
  · exact Or.inr (Or.inr (Or.inr (Or.inl (key 3 e))))
  · exact Or.inr (Or.inr (Or.inr (Or.inr (Or.inl (key 4 e)))))
  · exact Or.inr (Or.inr (Or.inr (Or.inr (Or.inr (Or.inl (key 5 e))))))
  · exact Or.inr (Or.inr (Or.inr (Or.inr (Or.inr (Or.inr (key 6 e))))))
theorem own_fin {cs : List Int32} {z12 z13 z14 z15 : Int32} (e : z12 = if cs = [105, 110, 116] then 0 else if cs = [98, 111, 111, 108, 101, 97, 110] then 0 else 1) (e13 : z13 = if cs = [105, 110, 116] then 1 else 0) (e14 : z14 = if cs = [98, 111, 111, 108, 101, 97, 110] then 1 else 0) (e15 : z15 = if z13 = 0 then (if z14 = 0 then 1 else 0) else 0) : z12 = z15 := by
  subst e e13 e14 e15
  by_cases a : cs = [105, 110, 116] <;> by_cases b : cs = [98, 111, 111, 108, 101, 97, 110] <;> simp [a, b]
theorem own_i3 {x0 x1 x2 z : Int32} (e : z = if x0 = 105 then (if x1 = 110 then (if x2 = 116 then 1 else 0) else 0) else 0) : z = if ([x0, x1, x2] : List Int32) = [105, 110, 116] then 1 else 0 := by
  subst e
  by_cases h0 : x0 = 105 <;> by_cases h1 : x1 = 110 <;> by_cases h2 : x2 = 116 <;> simp [h0, h1, h2]
theorem own_b7 {x0 x1 x2 x3 x4 x5 x6 z : Int32} (e : z = if x0 = 98 then (if x1 = 111 then (if x2 = 111 then (if x3 = 108 then (if x4 = 101 then (if x5 = 97 then (if x6 = 110 then 1 else 0) else 0) else 0) else 0) else 0) else 0) else 0) : z = if ([x0, x1, x2, x3, x4, x5, x6] : List Int32) = [98, 111, 111, 108, 101, 97, 110] then 1 else 0 := by
  subst e
  by_cases h0 : x0 = 98 <;> by_cases h1 : x1 = 111 <;> by_cases h2 : x2 = 111 <;> by_cases h3 : x3 = 108 <;> by_cases h4 : x4 = 101 <;> by_cases h5 : x5 = 97 <;> by_cases h6 : x6 = 110 <;> simp [h0, h1, h2, h3, h4, h5, h6]
theorem own_no {cs ds : List Int32} {z : Int32} (h : cs.length ≠ ds.length) (e : z = 0) : z = if cs = ds then 1 else 0 := by
  rw [if_neg (fun q => h (by rw [q]))]; exact e

theorem d1_0 : decode method_2_code 0 = .ok (.lload_n 0, 1) := by decide +kernel
theorem d1_1 : decode method_2_code 1 = .ok (.bipush 8, 2) := by decide +kernel
theorem d1_3 : decode method_2_code 3 = .ok (.iload_n 2, 1) := by decide +kernel
theorem d1_4 : decode method_2_code 4 = .ok (.imul, 1) := by decide +kernel
theorem d1_5 : decode method_2_code 5 = .ok (.lushr, 1) := by decide +kernel
theorem d1_6 : decode method_2_code 6 = .ok (.ldc2_w 7, 3) := by decide +kernel
theorem d1_9 : decode method_2_code 9 = .ok (.land, 1) := by decide +kernel
theorem d1_10 : decode method_2_code 10 = .ok (.l2i, 1) := by decide +kernel
theorem d1_11 : decode method_2_code 11 = .ok (.i2c, 1) := by decide +kernel
theorem d1_12 : decode method_2_code 12 = .ok (.ireturn, 1) := by decide +kernel
theorem pn_com_example_cascadilla_cascadilla_language_TypeIsClassPinLaw : plainName "com/example/cascadilla/cascadilla/language/TypeIsClassPinLaw" = true := by first | (simp [plainName, overriddenIn]; done) | decide +kernel
theorem ef_drawn (m : MethodId) (q1 : Int64) (p2 : Int32) : entryFrame m #[(.long q1), (.int p2)] 3 = mkF m 0 #[.val (.long q1), .second, .val (.int p2)] [] := by first | (simp [entryFrame, mkF, argsToLocals, Value.category]; done) | rfl
def Qdrawn (Z : State) (q1 : Int64) (p2 : Int32) (h0 : Heap) (n0 : Nat) (v : Option Value) (h : Heap) (L : List Loc) : Prop := ∃ z : Int32, v = some (.int z) ∧ Fr n0 L ∧ h = h0 ∧ (¬ z < 0 ∧ ¬ (255 : Int32) < z)
set_option maxRecDepth 65536 in
set_option maxHeartbeats 40000000 in
theorem rmdrawn (l : Launch) (Z : State) (a0 : Array Value) (hw : ∀ d ∈ tables_1, d.before a0 Z = true) (ws : List Jvm.Cond) (q1 : Int64) (p2 : Int32) (h0 : Heap) (n0 : Nat) (Z0 : n0 ≤ h0.size) :
    MetFree l (⟨"com/example/cascadilla/cascadilla/language/TypeIsClassPinLaw", "drawn", "(JI)C"⟩ : MethodName) (head1 (Jvm.Cond.code (⟨"com/example/cascadilla/cascadilla/language/TypeIsClassPinLaw", "drawn", "(JI)C"⟩ : MethodName) method_2_code 3 (some .char) :: ws) ({ frames := 0, cells := 0, slots := 0, locals := 0 } : Room)) (fun a U => a = #[(.long q1), (.int p2)] ∧ Z.Warmed39 U.vm ∧ U.heap = h0) (fun _ _ _ _ _ => True) (fun _ U o U' => ∃ v L, o = .returned v ∧ Qdrawn Z q1 p2 h0 n0 v U'.heap L ∧ FrameEnd U o U' L ({ frames := 0, cells := 0, slots := 0, locals := 0 } : Room).cells ({ frames := 0, cells := 0, slots := 0, locals := 0 } : Room).slots) := by
  refine MetFree.of_bodySF (plainFor_of_name pn_com_example_cascadilla_cascadilla_language_TypeIsClassPinLaw) hisR ?_
  intro p e s m args below meth c s₁ Bd hml0 hP hK
  obtain ⟨rfl, hZ, hH0⟩ := hP
  have hx := Bd.exec
  have hby := Bd.bytes
  have hml : c.maxLocals = 3 := hml0
  have hown : s.vm.findClass "com/example/cascadilla/cascadilla/language/TypeIsClassPinLaw" = some m.cls := findClass_of_methodNamed Bd.named
  have hnm := (name_of_methodNamed Bd.named Bd.method).1
  have X0 : Stand p l e ({ frames := 0, cells := 0, slots := 0, locals := 0 } : Room) s m #[(.long q1), (.int p2)] below meth c s₁ [] 0 0 := Stand.of_body Bd
  have e0 : s₁.heap = h0 := by rw [← hH0, Bd.state]; rfl
  have N0 := Fr.nil n0
  refine own_cast (ef_drawn m q1 p2) ?_
  show own_Go p e below (fun o U' => ∃ v L, o = .returned v ∧ Qdrawn Z q1 p2 h0 n0 v U'.heap L ∧ FrameEnd s o U' L ({ frames := 0, cells := 0, slots := 0, locals := 0 } : Room).cells ({ frames := 0, cells := 0, slots := 0, locals := 0 } : Room).slots) (s₁.setTop (mkF m 0 #[.val (.long q1), .second, .val (.int p2)] []))
  refine own_via (fun _ => XS.lloadN X0.here hx rfl (hb hby d1_0) rfl) ?_
  show own_Go p e below _ (s₁.setTop (mkF m 1 #[.val (.long q1), .second, .val (.int p2)] [(.long q1)]))
  refine own_via (fun _ => XS.bipush X0.here hx rfl (hb hby d1_1)) ?_
  show own_Go p e below _ (s₁.setTop (mkF m 3 #[.val (.long q1), .second, .val (.int p2)] [(.int (8 : Int32)), (.long q1)]))
  refine own_via (fun _ => XS.iloadN X0.here hx rfl (hb hby d1_3) rfl) ?_
  show own_Go p e below _ (s₁.setTop (mkF m 4 #[.val (.long q1), .second, .val (.int p2)] [(.int p2), (.int (8 : Int32)), (.long q1)]))
  refine own_via (fun _ => XS.imul X0.here hx rfl (hb hby d1_4) rfl) ?_
  show own_Go p e below _ (s₁.setTop (mkF m 5 #[.val (.long q1), .second, .val (.int p2)] [(.int ((8 : Int32) * p2)), (.long q1)]))
  refine own_via (fun _ => XS.lushr X0.here hx rfl (hb hby d1_5) rfl) ?_
  show own_Go p e below _ (s₁.setTop (mkF m 6 #[.val (.long q1), .second, .val (.int p2)] [(.long ((q1.toUInt64 >>> (((8 : Int32) * p2) &&& 0x3f).toInt64.toUInt64).toInt64))]))
  refine own_via (X0.ldc2Long hx hown (mvT hZ (own_w hw 5 rfl)) (g := (mkF m 6 #[.val (.long q1), .second, .val (.int p2)] [(.long ((q1.toUInt64 >>> (((8 : Int32) * p2) &&& 0x3f).toInt64.toUInt64).toInt64))])) rfl (hb hby d1_6)) ?_
  show own_Go p e below _ (s₁.setTop (mkF m 9 #[.val (.long q1), .second, .val (.int p2)] [(.long (255 : Int64)), (.long ((q1.toUInt64 >>> (((8 : Int32) * p2) &&& 0x3f).toInt64.toUInt64).toInt64))]))
  refine own_via (fun _ => XS.land X0.here hx rfl (hb hby d1_9) rfl) ?_
  show own_Go p e below _ (s₁.setTop (mkF m 10 #[.val (.long q1), .second, .val (.int p2)] [(.long (((q1.toUInt64 >>> (((8 : Int32) * p2) &&& 0x3f).toInt64.toUInt64).toInt64) &&& (255 : Int64)))]))
  refine own_via (fun _ => XS.l2i X0.here hx rfl (hb hby d1_10) rfl) ?_
  show own_Go p e below _ (s₁.setTop (mkF m 11 #[.val (.long q1), .second, .val (.int p2)] [(.int ((((q1.toUInt64 >>> (((8 : Int32) * p2) &&& 0x3f).toInt64.toUInt64).toInt64) &&& (255 : Int64)).toInt32))]))
  refine own_via (fun _ => XS.i2c X0.here hx rfl (hb hby d1_11) rfl) ?_
  show own_Go p e below _ (s₁.setTop (mkF m 12 #[.val (.long q1), .second, .val (.int p2)] [(.int (((((q1.toUInt64 >>> (((8 : Int32) * p2) &&& 0x3f).toInt64.toUInt64).toInt64) &&& (255 : Int64)).toInt32).toUInt32.toUInt16.toUInt32.toInt32))]))
  exact own_retv X0 Bd.notSynchronized hx Bd.returns (own_narV (own_chL _)) (Or.inl ⟨rfl, (by simp), _, rfl⟩) (hb hby d1_12) (by decide) (by decide) (by rw [e0]; exact ⟨(((((q1.toUInt64 >>> (((8 : Int32) * p2) &&& 0x3f).toInt64.toUInt64).toInt64) &&& (255 : Int64)).toInt32).toUInt32.toUInt16.toUInt32.toInt32), rfl, N0, rfl, own_chL _⟩)
theorem d3_0 : decode jdk_42_method_149_code 0 = .ok (.aload_n 0, 1) := by decide +kernel
theorem d3_1 : decode jdk_42_method_149_code 1 = .ok (.invokespecial 1, 3) := by decide +kernel
theorem d3_4 : decode jdk_42_method_149_code 4 = .ok (.iload_n 3, 1) := by decide +kernel
theorem d3_5 : decode jdk_42_method_149_code 5 = .ok (.ifCond .ne 22, 3) := by decide +kernel
theorem d3_8 : decode jdk_42_method_149_code 8 = .ok (.aload_n 0, 1) := by decide +kernel
theorem d3_9 : decode jdk_42_method_149_code 9 = .ok (.ldc 7, 2) := by decide +kernel
theorem d3_11 : decode jdk_42_method_149_code 11 = .ok (.getfield 9, 3) := by decide +kernel
theorem d3_14 : decode jdk_42_method_149_code 14 = .ok (.putfield 9, 3) := by decide +kernel
theorem d3_17 : decode jdk_42_method_149_code 17 = .ok (.aload_n 0, 1) := by decide +kernel
theorem d3_18 : decode jdk_42_method_149_code 18 = .ok (.ldc 7, 2) := by decide +kernel
theorem d3_20 : decode jdk_42_method_149_code 20 = .ok (.getfield 15, 3) := by decide +kernel
theorem d3_23 : decode jdk_42_method_149_code 23 = .ok (.putfield 15, 3) := by decide +kernel
theorem d3_26 : decode jdk_42_method_149_code 26 = .ok (.return_, 1) := by decide +kernel
theorem d3_27 : decode jdk_42_method_149_code 27 = .ok (.getstatic 38, 3) := by decide +kernel
theorem d3_30 : decode jdk_42_method_149_code 30 = .ok (.ifCond .eq 28, 3) := by decide +kernel
theorem d3_33 : decode jdk_42_method_149_code 33 = .ok (.aload_n 1, 1) := by decide +kernel
theorem d3_34 : decode jdk_42_method_149_code 34 = .ok (.iload_n 2, 1) := by decide +kernel
theorem d3_35 : decode jdk_42_method_149_code 35 = .ok (.iload_n 3, 1) := by decide +kernel
theorem d3_36 : decode jdk_42_method_149_code 36 = .ok (.invokestatic 177, 3) := by decide +kernel
theorem d3_39 : decode jdk_42_method_149_code 39 = .ok (.astore 5, 2) := by decide +kernel
theorem d3_41 : decode jdk_42_method_149_code 41 = .ok (.aload_n 0, 1) := by decide +kernel
theorem d3_42 : decode jdk_42_method_149_code 42 = .ok (.aload 5, 2) := by decide +kernel
theorem d3_44 : decode jdk_42_method_149_code 44 = .ok (.iload_n 3, 1) := by decide +kernel
theorem d3_45 : decode jdk_42_method_149_code 45 = .ok (.invokestatic 47, 3) := by decide +kernel
theorem d3_48 : decode jdk_42_method_149_code 48 = .ok (.putfield 15, 3) := by decide +kernel
theorem d3_51 : decode jdk_42_method_149_code 51 = .ok (.aload_n 0, 1) := by decide +kernel
theorem d3_52 : decode jdk_42_method_149_code 52 = .ok (.aload 5, 2) := by decide +kernel
theorem d3_54 : decode jdk_42_method_149_code 54 = .ok (.putfield 9, 3) := by decide +kernel
theorem d3_57 : decode jdk_42_method_149_code 57 = .ok (.return_, 1) := by decide +kernel
theorem d3_58 : decode jdk_42_method_149_code 58 = .ok (.aload_n 0, 1) := by decide +kernel
theorem d3_59 : decode jdk_42_method_149_code 59 = .ok (.iconst 1, 1) := by decide +kernel
theorem d3_60 : decode jdk_42_method_149_code 60 = .ok (.putfield 15, 3) := by decide +kernel
theorem d3_63 : decode jdk_42_method_149_code 63 = .ok (.aload_n 0, 1) := by decide +kernel
theorem d3_64 : decode jdk_42_method_149_code 64 = .ok (.aload_n 1, 1) := by decide +kernel
theorem d3_65 : decode jdk_42_method_149_code 65 = .ok (.iload_n 2, 1) := by decide +kernel
theorem d3_66 : decode jdk_42_method_149_code 66 = .ok (.iload_n 3, 1) := by decide +kernel
theorem d3_67 : decode jdk_42_method_149_code 67 = .ok (.invokestatic 180, 3) := by decide +kernel
theorem d3_70 : decode jdk_42_method_149_code 70 = .ok (.putfield 9, 3) := by decide +kernel
theorem d3_73 : decode jdk_42_method_149_code 73 = .ok (.return_, 1) := by decide +kernel
theorem pd_0 : parseMethodDescriptor "()V" = some ⟨[], none⟩ := by decide +kernel
theorem pd_1 : parseMethodDescriptor "([CII)[B" = some ⟨[(.array .char), .int, .int], some (.array .byte)⟩ := by decide +kernel
theorem pd_2 : parseMethodDescriptor "([BI)B" = some ⟨[(.array .byte), .int], some .byte⟩ := by decide +kernel
theorem pn_java_lang_String : plainName "java/lang/String" = true := by first | (simp [plainName, overriddenIn]; done) | decide +kernel
theorem ef_strV0 (m : MethodId) (a1 : Addr) (a2 : Addr) : entryFrame m #[(.ref a1), (.ref a2), (.int (0 : Int32)), (.int (0 : Int32)), .null] 6 = mkF m 0 #[.val (.ref a1), .val (.ref a2), .val (.int (0 : Int32)), .val (.int (0 : Int32)), .val .null, .unset] [] := by first | (simp [entryFrame, mkF, argsToLocals, Value.category]; done) | rfl
def QstrV0 (Z : State) (a1 : Addr) (a2 : Addr) (h0 : Heap) (n0 : Nat) (v : Option Value) (h : Heap) (L : List Loc) (vm : Vm) : Prop := v = none ∧ Fr n0 L ∧ Keep h0 h [a1] ∧ (own_Str Z h a1 []) ∧ (CHv Z consts_1 vm h)
set_option maxRecDepth 65536 in
set_option maxHeartbeats 40000000 in
theorem rmstrV0 (l : Launch) (Z : State) (a0 : Array Value) (hw : ∀ d ∈ tables_1, d.before a0 Z = true) (ws : List Jvm.Cond) (a1 : Addr) (a2 : Addr) (h0 : Heap) (n0 : Nat) (Z0 : n0 ≤ h0.size) (O0 : Old Z n0 h0) (E1 : Exa Z h0 a1 "java/lang/String") (F1 : Fld Z h0 a1 "java/lang/String" "value" "[B" .null) (F2 : Fld Z h0 a1 "java/lang/String" "coder" "B" (.int (0 : Int32))) (g1 : n0 ≤ a1) :
    MetFree l (⟨"java/lang/String", "<init>", "([CIILjava/lang/Void;)V"⟩ : MethodName) (head1 (Jvm.Cond.code (⟨"java/lang/String", "<init>", "([CIILjava/lang/Void;)V"⟩ : MethodName) jdk_42_method_149_code 6 none :: ws) ({ frames := 1, cells := 2, slots := 4, locals := 12 } : Room)) (fun a U => a = #[(.ref a1), (.ref a2), (.int (0 : Int32)), (.int (0 : Int32)), .null] ∧ Z.Warmed39 U.vm ∧ U.heap = h0 ∧ CHv Z consts_1 U.vm h0 ∧ Safe Z consts_1 U.vm h0 a1) (fun _ _ _ _ _ => True) (fun _ U o U' => ∃ v L, o = .returned v ∧ QstrV0 Z a1 a2 h0 n0 v U'.heap L U'.vm ∧ ReturnedEndW U o U' L ({ frames := 1, cells := 2, slots := 4, locals := 12 } : Room).cells ({ frames := 1, cells := 2, slots := 4, locals := 12 } : Room).slots) := by
  refine MetFree.of_bodySF (plainFor_of_name pn_java_lang_String) hisR ?_
  intro p e s m args below meth c s₁ Bd hml0 hP hK
  obtain ⟨rfl, hZ, hH0, J0⟩ := hP
  have hx := Bd.exec
  have hby := Bd.bytes
  have hml : c.maxLocals = 6 := hml0
  have hown : s.vm.findClass "java/lang/String" = some m.cls := findClass_of_methodNamed Bd.named
  have hnm := (name_of_methodNamed Bd.named Bd.method).1
  have X0 : Stand p l e ({ frames := 1, cells := 2, slots := 4, locals := 12 } : Room) (s.setVm s.vm) m #[(.ref a1), (.ref a2), (.int (0 : Int32)), (.int (0 : Int32)), .null] below meth c s₁ [] 0 0 := Stand.of_body Bd
  have hS0 : s.Since s.vm 0 := (State.WarmedH.refl s).since 0
  have e0 : s₁.heap = h0 := by rw [← hH0, Bd.state]; rfl
  have N0 := Fr.nil n0
  refine own_cast (ef_strV0 m a1 a2) ?_
  show own_Go p e below (fun o U' => ∃ v L, o = .returned v ∧ QstrV0 Z a1 a2 h0 n0 v U'.heap L U'.vm ∧ ReturnedEndW s o U' L ({ frames := 1, cells := 2, slots := 4, locals := 12 } : Room).cells ({ frames := 1, cells := 2, slots := 4, locals := 12 } : Room).slots) (s₁.setTop (mkF m 0 #[.val (.ref a1), .val (.ref a2), .val (.int (0 : Int32)), .val (.int (0 : Int32)), .val .null, .unset] []))
  obtain ⟨J0, sf_a1⟩ := J0
  refine own_via (fun _ => XS.aloadN X0.here hx rfl (hb hby d3_0) rfl rfl) ?_
  show own_Go p e below _ (s₁.setTop (mkF m 1 #[.val (.ref a1), .val (.ref a2), .val (.int (0 : Int32)), .val (.int (0 : Int32)), .val .null, .unset] [(.ref a1)]))
  obtain ⟨T_1, X_1, e_1, st_1⟩ := initO X0 hx hZ hown (own_w hw 19 rfl) (own_w hw 20 rfl) (own_w hw 21 rfl) e0 (g := (mkF m 1 #[.val (.ref a1), .val (.ref a2), .val (.int (0 : Int32)), .val (.int (0 : Int32)), .val .null, .unset] [(.ref a1)])) rfl (by rw [hml]; rfl) rfl (hb hby d3_1) (by decide) (W := 0) (by show 2 * 0 + _ ≤ _; exact Nat.le_of_eq rfl) (by decide)
  refine own_via st_1 ?_
  show own_Go p e below _ (T_1.setTop (mkF m 4 #[.val (.ref a1), .val (.ref a2), .val (.int (0 : Int32)), .val (.int (0 : Int32)), .val .null, .unset] []))
  refine own_via (fun _ => XS.iloadN X_1.here hx rfl (hb hby d3_4) rfl) ?_
  show own_Go p e below _ (T_1.setTop (mkF m 5 #[.val (.ref a1), .val (.ref a2), .val (.int (0 : Int32)), .val (.int (0 : Int32)), .val .null, .unset] [(.int (0 : Int32))]))
  refine own_via (fun _ => XS.ifNo X_1.here hx rfl (hb hby d3_5) rfl ((if0 _ _).trans (teq ((by decide) : (0 : Int32) = (0 : Int32))).2)) ?_
  show own_Go p e below _ (T_1.setTop (mkF m 8 #[.val (.ref a1), .val (.ref a2), .val (.int (0 : Int32)), .val (.int (0 : Int32)), .val .null, .unset] []))
  refine own_via (fun _ => XS.aloadN X_1.here hx rfl (hb hby d3_8) rfl rfl) ?_
  show own_Go p e below _ (T_1.setTop (mkF m 9 #[.val (.ref a1), .val (.ref a2), .val (.int (0 : Int32)), .val (.int (0 : Int32)), .val .null, .unset] [(.ref a1)]))
  obtain ⟨a_2, T_2, h_2, k_2, b_2, kk_2, X_2, e_2, E_2, hS_2, hk_2, hZ_2, ho_2, LE_2, LC_2, LV_2, LA_2, la_2, lb_2, CH_2, L_2, sf_2, st_2⟩ := ldcCH X_1 hx hZ hown (own_w hw 68 rfl) (own_wS hw) e_1 hS0 (Nat.zero_le _) (own_EW hw) (by decide) J0 (vs := ((([] : List Int32).map fun c => c.toInt8.toInt32).map Value.int)) (z := Int32.ofNat 0) ⟨by decide, by decide +kernel⟩ (by decide) rfl (g := (mkF m 9 #[.val (.ref a1), .val (.ref a2), .val (.int (0 : Int32)), .val (.int (0 : Int32)), .val .null, .unset] [(.ref a1)])) rfl (hb hby d3_9) (n := 0) (by decide) (by decide) (by decide) (by decide)
  have J_2 := CH_2.1
  have sf_2_a1 := CH_2.safe E1.lt sf_a1
  obtain ⟨nea_2_a1, neb_2_a1⟩ := sf_2 _ sf_2_a1
  refine own_via st_2 ?_
  show own_Go p e below _ (T_2.setTop (mkF m 11 #[.val (.ref a1), .val (.ref a2), .val (.int (0 : Int32)), .val (.int (0 : Int32)), .val .null, .unset] [(.ref a_2), (.ref a1)]))
  obtain ⟨T_3, X_3, e_3, st_3⟩ := getF X_2 hx hZ_2 ho_2 (host := "") (Or.inl (own_w hw 36 rfl)) Via.refl e_2 LV_2 (g := (mkF m 11 #[.val (.ref a1), .val (.ref a2), .val (.int (0 : Int32)), .val (.int (0 : Int32)), .val .null, .unset] [(.ref a_2), (.ref a1)])) rfl rfl (hb hby d3_11)
  refine own_via st_3 ?_
  show own_Go p e below _ (T_3.setTop (mkF m 14 #[.val (.ref a1), .val (.ref a2), .val (.int (0 : Int32)), .val (.int (0 : Int32)), .val .null, .unset] [(.ref b_2), (.ref a1)]))
  have K_4 : Keep h0 h_2 [] := (Keep.refl h0 []).ext E_2
  obtain ⟨T_5, h_5, X_5, e_5, W_5, st_5⟩ := putF X_3 hx hZ_2 ho_2 (host := "") (Or.inl (own_w hw 36 rfl)) Via.refl e_3 (F1.keep K_4 nin0) (E1.keep K_4) (Or.inr ⟨(own_w hw 37 rfl), rfl, hnm⟩) (own_w hw 10 rfl) (ty := (.array .byte)) (by decide) rfl rfl (g := (mkF m 14 #[.val (.ref a1), .val (.ref a2), .val (.int (0 : Int32)), .val (.int (0 : Int32)), .val .null, .unset] [(.ref b_2), (.ref a1)])) rfl rfl (hb hby d3_14)
  have F_6 : Fld Z h_5 a1 "java/lang/String" "coder" "B" (.int (0 : Int32)) := (F2.keep K_4 nin0).other W_5 (Or.inr (slot_ne (Or.inr (own_w hw 35 rfl)) (Or.inr (own_w hw 37 rfl)) (by decide) (t := .byte) (t' := (.array .byte)) (by decide) (by decide)))
  have F_7 : Fld Z h_5 a1 "java/lang/String" "value" "[B" (.ref b_2) := (F1.keep K_4 nin0).same W_5
  have N_5 := Fr.snoc X_5 N0 g1
  refine own_via st_5 ?_
  show own_Go p e below _ (T_5.setTop (mkF m 17 #[.val (.ref a1), .val (.ref a2), .val (.int (0 : Int32)), .val (.int (0 : Int32)), .val .null, .unset] []))
  refine own_via (fun _ => XS.aloadN X_5.here hx rfl (hb hby d3_17) rfl rfl) ?_
  show own_Go p e below _ (T_5.setTop (mkF m 18 #[.val (.ref a1), .val (.ref a2), .val (.int (0 : Int32)), .val (.int (0 : Int32)), .val .null, .unset] [(.ref a1)]))
  refine own_via (ldcAgain X_5 hx hZ_2 ho_2 (own_w hw 68 rfl) L_2 (g := (mkF m 18 #[.val (.ref a1), .val (.ref a2), .val (.int (0 : Int32)), .val (.int (0 : Int32)), .val .null, .unset] [(.ref a1)])) rfl (hb hby d3_18)) ?_
  show own_Go p e below _ (T_5.setTop (mkF m 20 #[.val (.ref a1), .val (.ref a2), .val (.int (0 : Int32)), .val (.int (0 : Int32)), .val .null, .unset] [(.ref a_2), (.ref a1)]))
  have K_8 : Keep h_2 h_5 [a1] := Keep.wr (ws := [a1]) (own_keep_mono (Keep.refl h_2 []) (by simp)) W_5 (Or.inl (List.mem_of_getElem? (i := 0) rfl))
  obtain ⟨T_9, X_9, e_9, st_9⟩ := getF X_5 hx hZ_2 ho_2 (host := "") (Or.inl (own_w hw 34 rfl)) Via.refl e_5 (LC_2.keep K_8 (ninS (Ne.symm nea_2_a1) nin0)) (g := (mkF m 20 #[.val (.ref a1), .val (.ref a2), .val (.int (0 : Int32)), .val (.int (0 : Int32)), .val .null, .unset] [(.ref a_2), (.ref a1)])) rfl rfl (hb hby d3_20)
  refine own_via st_9 ?_
  show own_Go p e below _ (T_9.setTop (mkF m 23 #[.val (.ref a1), .val (.ref a2), .val (.int (0 : Int32)), .val (.int (0 : Int32)), .val .null, .unset] [(.int (0 : Int32)), (.ref a1)]))
  have K_10 : Keep h0 h_5 [a1] := Keep.wr (ws := [a1]) (own_keep_mono K_4 (by simp)) W_5 (Or.inl (List.mem_of_getElem? (i := 0) rfl))
  obtain ⟨T_11, h_11, X_11, e_11, W_11, st_11⟩ := putFN X_9 hx hZ_2 ho_2 (own_w hw 34 rfl) Via.refl e_9 F_6 (E1.keep K_10) (Or.inr ⟨(own_w hw 35 rfl), rfl, hnm⟩) (own_w hw 10 rfl) (ty := .byte) (v' := (.int (0 : Int32))) (by decide) rfl rfl (g := (mkF m 23 #[.val (.ref a1), .val (.ref a2), .val (.int (0 : Int32)), .val (.int (0 : Int32)), .val .null, .unset] [(.int (0 : Int32)), (.ref a1)])) rfl rfl (hb hby d3_23)
  have F_12 : Fld Z h_11 a1 "java/lang/String" "value" "[B" (.ref b_2) := F_7.other W_11 (Or.inr (slot_ne (Or.inr (own_w hw 37 rfl)) (Or.inr (own_w hw 35 rfl)) (by decide) (t := (.array .byte)) (t' := .byte) (by decide) (by decide)))
  have F_13 : Fld Z h_11 a1 "java/lang/String" "coder" "B" (.int (0 : Int32)) := F_6.same W_11
  have N_11 := Fr.snoc X_11 N_5 g1
  refine own_via st_11 ?_
  show own_Go p e below _ (T_11.setTop (mkF m 26 #[.val (.ref a1), .val (.ref a2), .val (.int (0 : Int32)), .val (.int (0 : Int32)), .val .null, .unset] []))
  have K_14 : Keep h0 h_11 [a1] := Keep.wr (ws := [a1]) K_10 W_11 (Or.inl (List.mem_of_getElem? (i := 0) rfl))
  have K_15 : Keep h_2 h_11 [a1] := Keep.wr (ws := [a1]) K_8 W_11 (Or.inl (List.mem_of_getElem? (i := 0) rfl))
  exact own_ret0W X_11 hS_2 (by rw [e_11]; exact (Nat.le_trans hk_2 K_15.1)) Bd.notSynchronized hx Bd.returns (hb hby d3_26) (by decide) (by decide) (by rw [e_11]; exact ⟨rfl, N_11, K_14, ⟨(E1.keep K_14), F_13, ⟨b_2, kk_2, F_12, (LA_2.keep K_15 (ninS (Ne.symm neb_2_a1) nin0))⟩, by decide, by decide⟩, (own_CHstay (J_2.keep K_15 (allS sf_2_a1 all0)) hZ_2 (own_EW hw) X_11.warmed)⟩)
theorem d2_0 : decode jdk_42_method_3_code 0 = .ok (.aload_n 0, 1) := by decide +kernel
theorem d2_1 : decode jdk_42_method_3_code 1 = .ok (.aload_n 1, 1) := by decide +kernel
theorem d2_2 : decode jdk_42_method_3_code 2 = .ok (.iconst 0, 1) := by decide +kernel
theorem d2_3 : decode jdk_42_method_3_code 3 = .ok (.aload_n 1, 1) := by decide +kernel
theorem d2_4 : decode jdk_42_method_3_code 4 = .ok (.arraylength, 1) := by decide +kernel
theorem d2_5 : decode jdk_42_method_3_code 5 = .ok (.aconst_null, 1) := by decide +kernel
theorem d2_6 : decode jdk_42_method_3_code 6 = .ok (.invokespecial 27, 3) := by decide +kernel
theorem d2_9 : decode jdk_42_method_3_code 9 = .ok (.return_, 1) := by decide +kernel
theorem pd_3 : parseMethodDescriptor "([CIILjava/lang/Void;)V" = some ⟨[(.array .char), .int, .int, (.object "java/lang/Void")], none⟩ := by decide +kernel
theorem ef_strC0 (m : MethodId) (a1 : Addr) (a2 : Addr) : entryFrame m #[(.ref a1), (.ref a2)] 2 = mkF m 0 #[.val (.ref a1), .val (.ref a2)] [] := by first | (simp [entryFrame, mkF, argsToLocals, Value.category]; done) | rfl
def QstrC0 (Z : State) (a1 : Addr) (a2 : Addr) (kc : ClassId) (h0 : Heap) (n0 : Nat) (v : Option Value) (h : Heap) (L : List Loc) (vm : Vm) : Prop := v = none ∧ Fr n0 L ∧ Keep h0 h [a1] ∧ (own_Str Z h a1 []) ∧ (CHv Z consts_1 vm h)
set_option maxRecDepth 65536 in
set_option maxHeartbeats 40000000 in
theorem rmstrC0 (l : Launch) (Z : State) (a0 : Array Value) (hw : ∀ d ∈ tables_1, d.before a0 Z = true) (ws : List Jvm.Cond) (a1 : Addr) (a2 : Addr) (kc : ClassId) (h0 : Heap) (n0 : Nat) (Z0 : n0 ≤ h0.size) (O0 : Old Z n0 h0) (E1 : Exa Z h0 a1 "java/lang/String") (F1 : Fld Z h0 a1 "java/lang/String" "value" "[B" .null) (F2 : Fld Z h0 a1 "java/lang/String" "coder" "B" (.int (0 : Int32))) (g1 : n0 ≤ a1) (A2 : Arv Z h0 a2 kc .char (0 : Int32) [] (.int (0 : Int32))) :
    MetFree l (⟨"java/lang/String", "<init>", "([C)V"⟩ : MethodName) (head1 (Jvm.Cond.code (⟨"java/lang/String", "<init>", "([C)V"⟩ : MethodName) jdk_42_method_3_code 2 none :: ws) ({ frames := 2, cells := 2, slots := 4, locals := 29 } : Room)) (fun a U => a = #[(.ref a1), (.ref a2)] ∧ Z.Warmed39 U.vm ∧ U.heap = h0 ∧ CHv Z consts_1 U.vm h0 ∧ Safe Z consts_1 U.vm h0 a1) (fun _ _ _ _ _ => True) (fun _ U o U' => ∃ v L, o = .returned v ∧ QstrC0 Z a1 a2 kc h0 n0 v U'.heap L U'.vm ∧ ReturnedEndW U o U' L ({ frames := 2, cells := 2, slots := 4, locals := 29 } : Room).cells ({ frames := 2, cells := 2, slots := 4, locals := 29 } : Room).slots) := by
  refine MetFree.of_bodySF (plainFor_of_name pn_java_lang_String) hisR ?_
  intro p e s m args below meth c s₁ Bd hml0 hP hK
  obtain ⟨rfl, hZ, hH0, J0⟩ := hP
  have hx := Bd.exec
  have hby := Bd.bytes
  have hml : c.maxLocals = 2 := hml0
  have hown : s.vm.findClass "java/lang/String" = some m.cls := findClass_of_methodNamed Bd.named
  have hnm := (name_of_methodNamed Bd.named Bd.method).1
  have X0 : Stand p l e ({ frames := 2, cells := 2, slots := 4, locals := 29 } : Room) (s.setVm s.vm) m #[(.ref a1), (.ref a2)] below meth c s₁ [] 0 0 := Stand.of_body Bd
  have hS0 : s.Since s.vm 0 := (State.WarmedH.refl s).since 0
  have e0 : s₁.heap = h0 := by rw [← hH0, Bd.state]; rfl
  have N0 := Fr.nil n0
  refine own_cast (ef_strC0 m a1 a2) ?_
  show own_Go p e below (fun o U' => ∃ v L, o = .returned v ∧ QstrC0 Z a1 a2 kc h0 n0 v U'.heap L U'.vm ∧ ReturnedEndW s o U' L ({ frames := 2, cells := 2, slots := 4, locals := 29 } : Room).cells ({ frames := 2, cells := 2, slots := 4, locals := 29 } : Room).slots) (s₁.setTop (mkF m 0 #[.val (.ref a1), .val (.ref a2)] []))
  obtain ⟨J0, sf_a1⟩ := J0
  refine own_via (fun _ => XS.aloadN X0.here hx rfl (hb hby d2_0) rfl rfl) ?_
  show own_Go p e below _ (s₁.setTop (mkF m 1 #[.val (.ref a1), .val (.ref a2)] [(.ref a1)]))
  refine own_via (fun _ => XS.aloadN X0.here hx rfl (hb hby d2_1) rfl rfl) ?_
  show own_Go p e below _ (s₁.setTop (mkF m 2 #[.val (.ref a1), .val (.ref a2)] [(.ref a2), (.ref a1)]))
  refine own_via (fun _ => XS.iconst X0.here hx rfl (hb hby d2_2)) ?_
  show own_Go p e below _ (s₁.setTop (mkF m 3 #[.val (.ref a1), .val (.ref a2)] [(.int (0 : Int32)), (.ref a2), (.ref a1)]))
  refine own_via (fun _ => XS.aloadN X0.here hx rfl (hb hby d2_3) rfl rfl) ?_
  show own_Go p e below _ (s₁.setTop (mkF m 4 #[.val (.ref a1), .val (.ref a2)] [(.ref a2), (.int (0 : Int32)), (.ref a2), (.ref a1)]))
  obtain ⟨cl_1, Ar_1, q_1, S_1, M_1, H_1, G_1⟩ := (id A2)
  refine own_via (X0.arraylength hx (by rw [e0]; exact Ar_1.1) (State.isArrayOf_alike hZ.alike Ar_1.2.1) (g := (mkF m 4 #[.val (.ref a1), .val (.ref a2)] [(.ref a2), (.int (0 : Int32)), (.ref a2), (.ref a1)])) rfl rfl (hb hby d2_4)) ?_
  rw [len_of S_1 M_1]
  show own_Go p e below _ (s₁.setTop (mkF m 5 #[.val (.ref a1), .val (.ref a2)] [(.int (0 : Int32)), (.int (0 : Int32)), (.ref a2), (.ref a1)]))
  refine own_via (fun _ => XS.aconstNull X0.here hx rfl (hb hby d2_5)) ?_
  show own_Go p e below _ (s₁.setTop (mkF m 6 #[.val (.ref a1), .val (.ref a2)] [.null, (.int (0 : Int32)), (.int (0 : Int32)), (.ref a2), (.ref a1)]))
  obtain ⟨_, _, ⟨T_2, L_2, k_2, n_2⟩, -, Xc_2, hSc_2, hgc_2, ⟨Lc_2, hQ_2, l_2, y_2, z_2⟩, st_2⟩ := X0.specialBackS hx (y := (⟨"java/lang/String", "<init>", "([CIILjava/lang/Void;)V"⟩ : MethodName)) rfl hown (mvT hZ (own_w hw 15 rfl)) (mvT hZ (own_w hw 16 rfl)) (mvT hZ (own_w hw 18 rfl)) (by decide) (own_backS (J := fun vm_ => CHv Z consts_1 vm_ h0 ∧ Safe Z consts_1 vm_ h0 a1) (W := 0) (rmstrV0 l Z a0 hw [] a1 a2 h0 n0 Z0 O0 E1 F1 F2 g1) hZ (own_w hw 18 rfl) (own_w hw 11 rfl) (by decide) (by decide)) (g := (mkF m 6 #[.val (.ref a1), .val (.ref a2)] [.null, (.int (0 : Int32)), (.int (0 : Int32)), (.ref a2), (.ref a1)])) rfl (by rw [hml]; rfl) (Steps.refl _) (a := a1) (argsL := [(.ref a2), (.int (0 : Int32)), (.int (0 : Int32)), .null]) (rest := []) (lenOf pd_3 rfl) rfl (by show 2 * 0 + _ ≤ _; exact Nat.le_of_eq rfl) (hb hby d2_6) (fun _ hW1 => ⟨rfl, e0, ⟨(own_CHstay J0 hZ (own_EW hw) hW1), (own_Sfstay J0 hZ (own_EW hw) hW1 E1.lt sf_a1)⟩, (by decide : 0 + 2 ≤ _), (by decide : 0 + 4 ≤ _)⟩)
  dsimp only [Pt.U, Pt.locs, Pt.cells, Pt.slots] at Xc_2 hSc_2 hgc_2 l_2 y_2 z_2 st_2 hQ_2
  subst l_2 y_2 z_2
  obtain ⟨X_2, hS_2, hZ_2, ho_2⟩ := rebS hS0 (by rw [e0]; exact (Nat.zero_le _)) Xc_2 hSc_2 hgc_2 hZ hown
  obtain ⟨rfl, Nq_2, K_2q, q_2_0, J_2⟩ := hQ_2
  have N_2 := Fr.app N0 Nq_2
  refine own_via (fun _ k => st_2.trans k) ?_
  show own_Go p e below _ (T_2.setTop (mkF m 9 #[.val (.ref a1), .val (.ref a2)] []))
  have K_3 : Keep h0 T_2.heap [a1] := Keep.trans (ws := [a1]) (own_keep_mono (Keep.refl h0 []) (by simp)) K_2q (allS (Or.inl (List.mem_of_getElem? (i := 0) rfl)) all0)
  exact own_ret0W X_2 hS_2 (Nat.le_refl _) Bd.notSynchronized hx Bd.returns (hb hby d2_9) (by decide) (by decide) ⟨rfl, N_2, K_3, q_2_0, (own_CHstay J_2 hZ_2 (own_EW hw) X_2.warmed)⟩
theorem d8_0 : decode prog_55_method_1_code 0 = .ok (.aload_n 0, 1) := by decide +kernel
theorem d8_1 : decode prog_55_method_1_code 1 = .ok (.invokespecial 1, 3) := by decide +kernel
theorem d8_4 : decode prog_55_method_1_code 4 = .ok (.aload_n 0, 1) := by decide +kernel
theorem d8_5 : decode prog_55_method_1_code 5 = .ok (.aload_n 1, 1) := by decide +kernel
theorem d8_6 : decode prog_55_method_1_code 6 = .ok (.putfield 7, 3) := by decide +kernel
theorem d8_9 : decode prog_55_method_1_code 9 = .ok (.aload_n 0, 1) := by decide +kernel
theorem d8_10 : decode prog_55_method_1_code 10 = .ok (.aload_n 2, 1) := by decide +kernel
theorem d8_11 : decode prog_55_method_1_code 11 = .ok (.putfield 13, 3) := by decide +kernel
theorem d8_14 : decode prog_55_method_1_code 14 = .ok (.aload_n 0, 1) := by decide +kernel
theorem d8_15 : decode prog_55_method_1_code 15 = .ok (.iload_n 3, 1) := by decide +kernel
theorem d8_16 : decode prog_55_method_1_code 16 = .ok (.putfield 17, 3) := by decide +kernel
theorem d8_19 : decode prog_55_method_1_code 19 = .ok (.return_, 1) := by decide +kernel
theorem pn_com_example_cascadilla_cascadilla_language_Type : plainName "com/example/cascadilla/cascadilla/language/Type" = true := by first | (simp [plainName, overriddenIn]; done) | decide +kernel
theorem ef_type (m : MethodId) (o1 : Addr) (a1 : Addr) (p3 : Int32) : entryFrame m #[(.ref o1), (.ref a1), .null, (.int p3)] 4 = mkF m 0 #[.val (.ref o1), .val (.ref a1), .val .null, .val (.int p3)] [] := by first | (simp [entryFrame, mkF, argsToLocals, Value.category]; done) | rfl
def Qtype (Z : State) (o1 : Addr) (a1 : Addr) (p3 : Int32) (h0 : Heap) (n0 : Nat) (v : Option Value) (h : Heap) (L : List Loc) : Prop := v = none ∧ Fr n0 L ∧ Keep h0 h [o1] ∧ (Fld Z h o1 "com/example/cascadilla/cascadilla/language/Type" "name" "Ljava/lang/String;" (.ref a1))
set_option maxRecDepth 65536 in
set_option maxHeartbeats 40000000 in
theorem rmtype (l : Launch) (Z : State) (a0 : Array Value) (hw : ∀ d ∈ tables_1, d.before a0 Z = true) (ws : List Jvm.Cond) (o1 : Addr) (a1 : Addr) (p3 : Int32) (h0 : Heap) (n0 : Nat) (Z0 : n0 ≤ h0.size) (E1 : Exa Z h0 o1 "com/example/cascadilla/cascadilla/language/Type") (F1 : Fld Z h0 o1 "com/example/cascadilla/cascadilla/language/Type" "name" "Ljava/lang/String;" .null) (F2 : Fld Z h0 o1 "com/example/cascadilla/cascadilla/language/Type" "label" "Lcom/example/cascadilla/cascadilla/language/Label;" .null) (F3 : Fld Z h0 o1 "com/example/cascadilla/cascadilla/language/Type" "line" "I" (.int (0 : Int32))) (g1 : n0 ≤ o1) :
    MetFree l (⟨"com/example/cascadilla/cascadilla/language/Type", "<init>", "(Ljava/lang/String;Lcom/example/cascadilla/cascadilla/language/Label;I)V"⟩ : MethodName) (head1 (Jvm.Cond.code (⟨"com/example/cascadilla/cascadilla/language/Type", "<init>", "(Ljava/lang/String;Lcom/example/cascadilla/cascadilla/language/Label;I)V"⟩ : MethodName) prog_55_method_1_code 4 none :: ws) ({ frames := 1, cells := 0, slots := 0, locals := 12 } : Room)) (fun a U => a = #[(.ref o1), (.ref a1), .null, (.int p3)] ∧ Z.Warmed39 U.vm ∧ U.heap = h0) (fun _ _ _ _ _ => True) (fun _ U o U' => ∃ v L, o = .returned v ∧ Qtype Z o1 a1 p3 h0 n0 v U'.heap L ∧ FrameEnd U o U' L ({ frames := 1, cells := 0, slots := 0, locals := 12 } : Room).cells ({ frames := 1, cells := 0, slots := 0, locals := 12 } : Room).slots) := by
  refine MetFree.of_bodySF (plainFor_of_name pn_com_example_cascadilla_cascadilla_language_Type) hisR ?_
  intro p e s m args below meth c s₁ Bd hml0 hP hK
  obtain ⟨rfl, hZ, hH0⟩ := hP
  have hx := Bd.exec
  have hby := Bd.bytes
  have hml : c.maxLocals = 4 := hml0
  have hown : s.vm.findClass "com/example/cascadilla/cascadilla/language/Type" = some m.cls := findClass_of_methodNamed Bd.named
  have hnm := (name_of_methodNamed Bd.named Bd.method).1
  have X0 : Stand p l e ({ frames := 1, cells := 0, slots := 0, locals := 12 } : Room) s m #[(.ref o1), (.ref a1), .null, (.int p3)] below meth c s₁ [] 0 0 := Stand.of_body Bd
  have e0 : s₁.heap = h0 := by rw [← hH0, Bd.state]; rfl
  have N0 := Fr.nil n0
  refine own_cast (ef_type m o1 a1 p3) ?_
  show own_Go p e below (fun o U' => ∃ v L, o = .returned v ∧ Qtype Z o1 a1 p3 h0 n0 v U'.heap L ∧ FrameEnd s o U' L ({ frames := 1, cells := 0, slots := 0, locals := 12 } : Room).cells ({ frames := 1, cells := 0, slots := 0, locals := 12 } : Room).slots) (s₁.setTop (mkF m 0 #[.val (.ref o1), .val (.ref a1), .val .null, .val (.int p3)] []))
  refine own_via (fun _ => XS.aloadN X0.here hx rfl (hb hby d8_0) rfl rfl) ?_
  show own_Go p e below _ (s₁.setTop (mkF m 1 #[.val (.ref o1), .val (.ref a1), .val .null, .val (.int p3)] [(.ref o1)]))
  obtain ⟨T_1, X_1, e_1, st_1⟩ := initO X0 hx hZ hown (own_w hw 41 rfl) (own_w hw 20 rfl) (own_w hw 21 rfl) e0 (g := (mkF m 1 #[.val (.ref o1), .val (.ref a1), .val .null, .val (.int p3)] [(.ref o1)])) rfl (by rw [hml]; rfl) rfl (hb hby d8_1) (by decide) (W := 0) (by show 2 * 0 + _ ≤ _; exact Nat.le_of_eq rfl) (by decide)
  refine own_via st_1 ?_
  show own_Go p e below _ (T_1.setTop (mkF m 4 #[.val (.ref o1), .val (.ref a1), .val .null, .val (.int p3)] []))
  refine own_via (fun _ => XS.aloadN X_1.here hx rfl (hb hby d8_4) rfl rfl) ?_
  show own_Go p e below _ (T_1.setTop (mkF m 5 #[.val (.ref o1), .val (.ref a1), .val .null, .val (.int p3)] [(.ref o1)]))
  refine own_via (fun _ => XS.aloadN X_1.here hx rfl (hb hby d8_5) rfl rfl) ?_
  show own_Go p e below _ (T_1.setTop (mkF m 6 #[.val (.ref o1), .val (.ref a1), .val .null, .val (.int p3)] [(.ref a1), (.ref o1)]))
  obtain ⟨T_2, h_2, X_2, e_2, W_2, st_2⟩ := putF X_1 hx hZ hown (host := "") (Or.inl (own_w hw 42 rfl)) Via.refl e_1 F1 E1 (Or.inr ⟨(own_w hw 43 rfl), rfl, hnm⟩) (own_w hw 7 rfl) (ty := (.object "java/lang/String")) (by decide) rfl rfl (g := (mkF m 6 #[.val (.ref o1), .val (.ref a1), .val .null, .val (.int p3)] [(.ref a1), (.ref o1)])) rfl rfl (hb hby d8_6)
  have F_3 : Fld Z h_2 o1 "com/example/cascadilla/cascadilla/language/Type" "label" "Lcom/example/cascadilla/cascadilla/language/Label;" .null := F2.other W_2 (Or.inr (slot_ne (Or.inr (own_w hw 45 rfl)) (Or.inr (own_w hw 43 rfl)) (by decide) (t := (.object "com/example/cascadilla/cascadilla/language/Label")) (t' := (.object "java/lang/String")) (by decide) (by decide)))
  have F_4 : Fld Z h_2 o1 "com/example/cascadilla/cascadilla/language/Type" "line" "I" (.int (0 : Int32)) := F3.other W_2 (Or.inr (slot_ne (Or.inr (own_w hw 47 rfl)) (Or.inr (own_w hw 43 rfl)) (by decide) (t := .int) (t' := (.object "java/lang/String")) (by decide) (by decide)))
  have F_5 : Fld Z h_2 o1 "com/example/cascadilla/cascadilla/language/Type" "name" "Ljava/lang/String;" (.ref a1) := F1.same W_2
  have N_2 := Fr.snoc X_2 N0 g1
  refine own_via st_2 ?_
  show own_Go p e below _ (T_2.setTop (mkF m 9 #[.val (.ref o1), .val (.ref a1), .val .null, .val (.int p3)] []))
  refine own_via (fun _ => XS.aloadN X_2.here hx rfl (hb hby d8_9) rfl rfl) ?_
  show own_Go p e below _ (T_2.setTop (mkF m 10 #[.val (.ref o1), .val (.ref a1), .val .null, .val (.int p3)] [(.ref o1)]))
  refine own_via (fun _ => XS.aloadN X_2.here hx rfl (hb hby d8_10) rfl rfl) ?_
  show own_Go p e below _ (T_2.setTop (mkF m 11 #[.val (.ref o1), .val (.ref a1), .val .null, .val (.int p3)] [.null, (.ref o1)]))
  have K_6 : Keep h0 h_2 [o1] := Keep.wr (ws := [o1]) (own_keep_mono (Keep.refl h0 []) (by simp)) W_2 (Or.inl (List.mem_of_getElem? (i := 0) rfl))
  obtain ⟨T_7, h_7, X_7, e_7, W_7, st_7⟩ := putF X_2 hx hZ hown (host := "") (Or.inl (own_w hw 44 rfl)) Via.refl e_2 F_3 (E1.keep K_6) (Or.inr ⟨(own_w hw 45 rfl), rfl, hnm⟩) (own_w hw 7 rfl) (ty := (.object "com/example/cascadilla/cascadilla/language/Label")) (by decide) rfl rfl (g := (mkF m 11 #[.val (.ref o1), .val (.ref a1), .val .null, .val (.int p3)] [.null, (.ref o1)])) rfl rfl (hb hby d8_11)
  have F_8 : Fld Z h_7 o1 "com/example/cascadilla/cascadilla/language/Type" "line" "I" (.int (0 : Int32)) := F_4.other W_7 (Or.inr (slot_ne (Or.inr (own_w hw 47 rfl)) (Or.inr (own_w hw 45 rfl)) (by decide) (t := .int) (t' := (.object "com/example/cascadilla/cascadilla/language/Label")) (by decide) (by decide)))
  have F_9 : Fld Z h_7 o1 "com/example/cascadilla/cascadilla/language/Type" "name" "Ljava/lang/String;" (.ref a1) := F_5.other W_7 (Or.inr (slot_ne (Or.inr (own_w hw 43 rfl)) (Or.inr (own_w hw 45 rfl)) (by decide) (t := (.object "java/lang/String")) (t' := (.object "com/example/cascadilla/cascadilla/language/Label")) (by decide) (by decide)))
  have F_10 : Fld Z h_7 o1 "com/example/cascadilla/cascadilla/language/Type" "label" "Lcom/example/cascadilla/cascadilla/language/Label;" .null := F_3.same W_7
  have N_7 := Fr.snoc X_7 N_2 g1
  refine own_via st_7 ?_
  show own_Go p e below _ (T_7.setTop (mkF m 14 #[.val (.ref o1), .val (.ref a1), .val .null, .val (.int p3)] []))
  refine own_via (fun _ => XS.aloadN X_7.here hx rfl (hb hby d8_14) rfl rfl) ?_
  show own_Go p e below _ (T_7.setTop (mkF m 15 #[.val (.ref o1), .val (.ref a1), .val .null, .val (.int p3)] [(.ref o1)]))
  refine own_via (fun _ => XS.iloadN X_7.here hx rfl (hb hby d8_15) rfl) ?_
  show own_Go p e below _ (T_7.setTop (mkF m 16 #[.val (.ref o1), .val (.ref a1), .val .null, .val (.int p3)] [(.int p3), (.ref o1)]))
  have K_11 : Keep h0 h_7 [o1] := Keep.wr (ws := [o1]) K_6 W_7 (Or.inl (List.mem_of_getElem? (i := 0) rfl))
  obtain ⟨T_12, h_12, X_12, e_12, W_12, st_12⟩ := putF X_7 hx hZ hown (host := "") (Or.inl (own_w hw 46 rfl)) Via.refl e_7 F_8 (E1.keep K_11) (Or.inr ⟨(own_w hw 47 rfl), rfl, hnm⟩) (own_w hw 7 rfl) (ty := .int) (by decide) rfl rfl (g := (mkF m 16 #[.val (.ref o1), .val (.ref a1), .val .null, .val (.int p3)] [(.int p3), (.ref o1)])) rfl rfl (hb hby d8_16)
  have F_13 : Fld Z h_12 o1 "com/example/cascadilla/cascadilla/language/Type" "name" "Ljava/lang/String;" (.ref a1) := F_9.other W_12 (Or.inr (slot_ne (Or.inr (own_w hw 43 rfl)) (Or.inr (own_w hw 47 rfl)) (by decide) (t := (.object "java/lang/String")) (t' := .int) (by decide) (by decide)))
  have F_14 : Fld Z h_12 o1 "com/example/cascadilla/cascadilla/language/Type" "label" "Lcom/example/cascadilla/cascadilla/language/Label;" .null := F_10.other W_12 (Or.inr (slot_ne (Or.inr (own_w hw 45 rfl)) (Or.inr (own_w hw 47 rfl)) (by decide) (t := (.object "com/example/cascadilla/cascadilla/language/Label")) (t' := .int) (by decide) (by decide)))
  have F_15 : Fld Z h_12 o1 "com/example/cascadilla/cascadilla/language/Type" "line" "I" (.int p3) := F_8.same W_12
  have N_12 := Fr.snoc X_12 N_7 g1
  refine own_via st_12 ?_
  show own_Go p e below _ (T_12.setTop (mkF m 19 #[.val (.ref o1), .val (.ref a1), .val .null, .val (.int p3)] []))
  have K_16 : Keep h0 h_12 [o1] := Keep.wr (ws := [o1]) K_11 W_12 (Or.inl (List.mem_of_getElem? (i := 0) rfl))
  exact own_ret0 X_12 Bd.notSynchronized hx Bd.returns (hb hby d8_19) (by decide) (by decide) (by rw [e_12]; exact ⟨rfl, N_12, K_16, F_13⟩)
theorem d9_0 : decode prog_55_method_5_code 0 = .ok (.aload_n 0, 1) := by decide +kernel
theorem d9_1 : decode prog_55_method_5_code 1 = .ok (.getfield 7, 3) := by decide +kernel
theorem d9_4 : decode prog_55_method_5_code 4 = .ok (.ldc 21, 2) := by decide +kernel
theorem d9_6 : decode prog_55_method_5_code 6 = .ok (.invokevirtual 23, 3) := by decide +kernel
theorem d9_9 : decode prog_55_method_5_code 9 = .ok (.ifCond .ne 19, 3) := by decide +kernel
theorem d9_12 : decode prog_55_method_5_code 12 = .ok (.aload_n 0, 1) := by decide +kernel
theorem d9_13 : decode prog_55_method_5_code 13 = .ok (.getfield 7, 3) := by decide +kernel
theorem d9_16 : decode prog_55_method_5_code 16 = .ok (.ldc 29, 2) := by decide +kernel
theorem d9_18 : decode prog_55_method_5_code 18 = .ok (.invokevirtual 23, 3) := by decide +kernel
theorem d9_21 : decode prog_55_method_5_code 21 = .ok (.ifCond .ne 7, 3) := by decide +kernel
theorem d9_24 : decode prog_55_method_5_code 24 = .ok (.iconst 1, 1) := by decide +kernel
theorem d9_25 : decode prog_55_method_5_code 25 = .ok (.goto 4, 3) := by decide +kernel
theorem d9_28 : decode prog_55_method_5_code 28 = .ok (.iconst 0, 1) := by decide +kernel
theorem d9_29 : decode prog_55_method_5_code 29 = .ok (.ireturn, 1) := by decide +kernel
theorem pd_4 : parseMethodDescriptor "(Ljava/lang/Object;)Z" = some ⟨[(.object "java/lang/Object")], some .boolean⟩ := by decide +kernel
theorem ef_isClass (m : MethodId) (o1 : Addr) : entryFrame m #[(.ref o1)] 1 = mkF m 0 #[.val (.ref o1)] [] := by first | (simp [entryFrame, mkF, argsToLocals, Value.category]; done) | rfl
def QisClass (Z : State) (o1 : Addr) (a1 : Addr) (ds : List Int32) (cs : Int32) (h0 : Heap) (n0 : Nat) (v : Option Value) (h : Heap) (L : List Loc) (vm : Vm) : Prop := ∃ z : Int32, v = some (.int z) ∧ Fr n0 L ∧ Keep h0 h [] ∧ (z = if ds = [105, 110, 116] then 0 else if ds = [98, 111, 111, 108, 101, 97, 110] then 0 else 1) ∧ (CHv Z consts_1 vm h)
set_option maxRecDepth 65536 in
set_option maxHeartbeats 40000000 in
theorem rmisClass (l : Launch) (Z : State) (a0 : Array Value) (hw : ∀ d ∈ tables_1, d.before a0 Z = true) (ws : List Jvm.Cond) (o1 : Addr) (a1 : Addr) (ds : List Int32) (cs : Int32) (h0 : Heap) (n0 : Nat) (Z0 : n0 ≤ h0.size) (O0 : Old Z n0 h0) (Scs : Sta Z Z.heap "java/lang/String" "COMPACT_STRINGS" "Z" (.int cs)) (hcs : ¬ (cs = (0 : Int32))) (F1 : Fld Z h0 o1 "com/example/cascadilla/cascadilla/language/Type" "name" "Ljava/lang/String;" (.ref a1)) (S1 : own_Str Z h0 a1 ds) :
    MetFree l (⟨"com/example/cascadilla/cascadilla/language/Type", "isClass", "()Z"⟩ : MethodName) (head1 (Jvm.Cond.code (⟨"com/example/cascadilla/cascadilla/language/Type", "isClass", "()Z"⟩ : MethodName) prog_55_method_5_code 1 (some .boolean) :: ws) ({ frames := 2, cells := 4, slots := 48, locals := 28 } : Room)) (fun a U => a = #[(.ref o1)] ∧ Z.Warmed39 U.vm ∧ U.heap = h0 ∧ CHv Z consts_1 U.vm h0) (fun _ _ _ _ _ => True) (fun _ U o U' => ∃ v L, o = .returned v ∧ QisClass Z o1 a1 ds cs h0 n0 v U'.heap L U'.vm ∧ ReturnedEndW U o U' L ({ frames := 2, cells := 4, slots := 48, locals := 28 } : Room).cells ({ frames := 2, cells := 4, slots := 48, locals := 28 } : Room).slots) := by
  refine MetFree.of_bodySF (plainFor_of_name pn_com_example_cascadilla_cascadilla_language_Type) hisR ?_
  intro p e s m args below meth c s₁ Bd hml0 hP hK
  obtain ⟨rfl, hZ, hH0, J0⟩ := hP
  have hx := Bd.exec
  have hby := Bd.bytes
  have hml : c.maxLocals = 1 := hml0
  have hown : s.vm.findClass "com/example/cascadilla/cascadilla/language/Type" = some m.cls := findClass_of_methodNamed Bd.named
  have hnm := (name_of_methodNamed Bd.named Bd.method).1
  have X0 : Stand p l e ({ frames := 2, cells := 4, slots := 48, locals := 28 } : Room) (s.setVm s.vm) m #[(.ref o1)] below meth c s₁ [] 0 0 := Stand.of_body Bd
  have hS0 : s.Since s.vm 0 := (State.WarmedH.refl s).since 0
  have e0 : s₁.heap = h0 := by rw [← hH0, Bd.state]; rfl
  have N0 := Fr.nil n0
  refine own_cast (ef_isClass m o1) ?_
  show own_Go p e below (fun o U' => ∃ v L, o = .returned v ∧ QisClass Z o1 a1 ds cs h0 n0 v U'.heap L U'.vm ∧ ReturnedEndW s o U' L ({ frames := 2, cells := 4, slots := 48, locals := 28 } : Room).cells ({ frames := 2, cells := 4, slots := 48, locals := 28 } : Room).slots) (s₁.setTop (mkF m 0 #[.val (.ref o1)] []))
  refine own_via (fun _ => XS.aloadN X0.here hx rfl (hb hby d9_0) rfl rfl) ?_
  show own_Go p e below _ (s₁.setTop (mkF m 1 #[.val (.ref o1)] [(.ref o1)]))
  obtain ⟨T_1, X_1, e_1, st_1⟩ := getF X0 hx hZ hown (host := "") (Or.inl (own_w hw 42 rfl)) Via.refl e0 F1 (g := (mkF m 1 #[.val (.ref o1)] [(.ref o1)])) rfl rfl (hb hby d9_1)
  refine own_via st_1 ?_
  show own_Go p e below _ (T_1.setTop (mkF m 4 #[.val (.ref o1)] [(.ref a1)]))
  obtain ⟨a_2, T_2, h_2, k_2, b_2, kk_2, X_2, e_2, E_2, hS_2, hk_2, hZ_2, ho_2, LE_2, LC_2, LV_2, LA_2, la_2, lb_2, CH_2, L_2, sf_2, st_2⟩ := ldcCH X_1 hx hZ hown (own_w hw 53 rfl) (own_wS hw) e_1 hS0 (Nat.zero_le _) (own_EW hw) (by decide) J0 (vs := ((([105, 110, 116] : List Int32).map fun c => c.toInt8.toInt32).map Value.int)) (z := Int32.ofNat 3) ⟨by decide, by decide +kernel⟩ (by decide) rfl (g := (mkF m 4 #[.val (.ref o1)] [(.ref a1)])) rfl (hb hby d9_4) (n := 12) (by decide) (by decide) (by decide) (by decide)
  have J_2 := CH_2.1
  have SL_2 : own_Str Z h_2 a_2 [105, 110, 116] := ⟨LE_2, LC_2, ⟨b_2, kk_2, LV_2, LA_2⟩, by decide, by decide⟩
  refine own_via st_2 ?_
  show own_Go p e below _ (T_2.setTop (mkF m 6 #[.val (.ref o1)] [(.ref a_2), (.ref a1)]))
  have K_4 : Keep h0 h_2 [] := (Keep.refl h0 []).ext E_2
  obtain ⟨E_3a, C_3a, ⟨t_3a, k_3a, V_3a, K_3a⟩, p_3a, l_3a⟩ := (S1.keep0 K_4)
  obtain ⟨E_3b, C_3b, ⟨t_3b, k_3b, V_3b, K_3b⟩, p_3b, l_3b⟩ := SL_2
  obtain ⟨cq_5, kq_5, q_5a, q_5b, q_5c⟩ := isOf hZ_2 e_2 E_3a
  obtain ⟨_, _, ⟨T_5, L_5, k_5, n_5⟩, -, X_5, ⟨Lc_5, hQ_5, l_5, y_5, z_5⟩, st_5⟩ := X_2.virtualBack hx (y := (⟨"java/lang/String", "equals", "(Ljava/lang/Object;)Z"⟩ : MethodName)) (z := (⟨"java/lang/String", "equals", "(Ljava/lang/Object;)Z"⟩ : MethodName)) ho_2 (mvT hZ_2 (own_w hw 56 rfl)) (mvT hZ_2 (own_w hw 57 rfl)) (notFace_of_selects (args := #[]) (mvT hZ_2 (own_w hw 59 rfl))) (mvT hZ_2 (own_w hw 59 rfl)) (mvT hZ_2 (own_w hw 58 rfl)) (by decide) (StrChars.Road.eqW (W := 0) hZ_2 (own_hwordsEq hw) (kI := 4) (own_w hw 10 rfl) E_3a V_3a C_3a K_3a (StrChars.Road.codOf rfl (fun c hc => (p_3a c hc).2)) (own_up p_3a) l_3a E_3b V_3b C_3b K_3b (StrChars.Road.codOf rfl (fun c hc => (p_3b c hc).2)) (own_up p_3b) l_3b (Scs.ext (O0.keep K_4 all0).2) hcs (by decide) (by decide)) q_5a q_5c (g := (mkF m 6 #[.val (.ref o1)] [(.ref a_2), (.ref a1)])) rfl (by rw [hml]; rfl) (Steps.refl _) (argsL := [(.ref a_2)]) (rest := []) (lenOf pd_4 rfl) rfl (by show 2 * 0 + _ ≤ _; exact Nat.le_of_eq rfl) (hb hby d9_6) (fun _ _ => ⟨rfl, e_2, (by decide : 2 + 0 ≤ _), (by decide : 16 + 0 ≤ _)⟩)
  dsimp only [Pt.U, Pt.locs, Pt.cells, Pt.slots] at X_5 l_5 y_5 z_5 st_5 hQ_5
  subst l_5 y_5 z_5
  obtain ⟨hv_5, rfl, e_5⟩ := hQ_5
  have N_5 := Fr.app N0 (Fr.nil n0)
  rcases hv_5 with ⟨rfl, hq_5⟩ | ⟨rfl, hq_5⟩
  · refine own_via (fun _ k => st_5.trans k) ?_
    show own_Go p e below _ (T_5.setTop (mkF m 9 #[.val (.ref o1)] [(.int (1 : Int32))]))
    refine own_via (fun _ => XS.ifYes X_5.here hx rfl (pc0 := 9) (pc' := 28) rfl (hb hby d9_9) rfl ((if0 _ _).trans (feq ((by decide) : ¬ ((1 : Int32) = (0 : Int32)))).2) (by decide) (by decide)) ?_
    show own_Go p e below _ (T_5.setTop (mkF m 28 #[.val (.ref o1)] []))
    refine own_via (fun _ => XS.iconst X_5.here hx rfl (hb hby d9_28)) ?_
    show own_Go p e below _ (T_5.setTop (mkF m 29 #[.val (.ref o1)] [(.int (0 : Int32))]))
    exact own_retvW X_5 hS_2 (by rw [e_5]; exact hk_2) Bd.notSynchronized hx Bd.returns rfl (Or.inl ⟨rfl, (by simp), _, rfl⟩) (hb hby d9_29) (by decide) (by decide) (by rw [e_5]; exact ⟨(0 : Int32), rfl, N_5, K_4, (by simp_all), (own_CHstay J_2 hZ_2 (own_EW hw) X_5.warmed)⟩)
  · refine own_via (fun _ k => st_5.trans k) ?_
    show own_Go p e below _ (T_5.setTop (mkF m 9 #[.val (.ref o1)] [(.int (0 : Int32))]))
    refine own_via (fun _ => XS.ifNo X_5.here hx rfl (hb hby d9_9) rfl ((if0 _ _).trans (teq ((by decide) : (0 : Int32) = (0 : Int32))).2)) ?_
    show own_Go p e below _ (T_5.setTop (mkF m 12 #[.val (.ref o1)] []))
    refine own_via (fun _ => XS.aloadN X_5.here hx rfl (hb hby d9_12) rfl rfl) ?_
    show own_Go p e below _ (T_5.setTop (mkF m 13 #[.val (.ref o1)] [(.ref o1)]))
    obtain ⟨T_6, X_6, e_6, st_6⟩ := getF X_5 hx hZ_2 ho_2 (host := "") (Or.inl (own_w hw 42 rfl)) Via.refl e_5 (F1.keep K_4 nin0) (g := (mkF m 13 #[.val (.ref o1)] [(.ref o1)])) rfl rfl (hb hby d9_13)
    refine own_via st_6 ?_
    show own_Go p e below _ (T_6.setTop (mkF m 16 #[.val (.ref o1)] [(.ref a1)]))
    obtain ⟨a_7, T_7, h_7, k_7, b_7, kk_7, X_7, e_7, E_7, hS_7, hk_7, hZ_7, ho_7, LE_7, LC_7, LV_7, LA_7, la_7, lb_7, CH_7, L_7, sf_7, st_7⟩ := ldcCH X_6 hx hZ_2 ho_2 (own_w hw 67 rfl) (own_wS hw) e_6 hS_2 hk_2 (own_EW hw) (by decide) J_2 (vs := ((([98, 111, 111, 108, 101, 97, 110] : List Int32).map fun c => c.toInt8.toInt32).map Value.int)) (z := Int32.ofNat 7) ⟨by decide, by decide +kernel⟩ (by decide) rfl (g := (mkF m 16 #[.val (.ref o1)] [(.ref a1)])) rfl (hb hby d9_16) (n := 28) (by decide) (by decide) (by decide) (by decide)
    have J_7 := CH_7.1
    have SL_7 : own_Str Z h_7 a_7 [98, 111, 111, 108, 101, 97, 110] := ⟨LE_7, LC_7, ⟨b_7, kk_7, LV_7, LA_7⟩, by decide, by decide⟩
    refine own_via st_7 ?_
    show own_Go p e below _ (T_7.setTop (mkF m 18 #[.val (.ref o1)] [(.ref a_7), (.ref a1)]))
    have K_9 : Keep h0 h_7 [] := K_4.ext E_7
    obtain ⟨E_8a, C_8a, ⟨t_8a, k_8a, V_8a, K_8a⟩, p_8a, l_8a⟩ := (S1.keep0 K_9)
    obtain ⟨E_8b, C_8b, ⟨t_8b, k_8b, V_8b, K_8b⟩, p_8b, l_8b⟩ := SL_7
    obtain ⟨cq_10, kq_10, q_10a, q_10b, q_10c⟩ := isOf hZ_7 e_7 E_8a
    obtain ⟨_, _, ⟨T_10, L_10, k_10, n_10⟩, -, X_10, ⟨Lc_10, hQ_10, l_10, y_10, z_10⟩, st_10⟩ := X_7.virtualBack hx (y := (⟨"java/lang/String", "equals", "(Ljava/lang/Object;)Z"⟩ : MethodName)) (z := (⟨"java/lang/String", "equals", "(Ljava/lang/Object;)Z"⟩ : MethodName)) ho_7 (mvT hZ_7 (own_w hw 56 rfl)) (mvT hZ_7 (own_w hw 57 rfl)) (notFace_of_selects (args := #[]) (mvT hZ_7 (own_w hw 59 rfl))) (mvT hZ_7 (own_w hw 59 rfl)) (mvT hZ_7 (own_w hw 58 rfl)) (by decide) (StrChars.Road.eqW (W := 0) hZ_7 (own_hwordsEq hw) (kI := 4) (own_w hw 10 rfl) E_8a V_8a C_8a K_8a (StrChars.Road.codOf rfl (fun c hc => (p_8a c hc).2)) (own_up p_8a) l_8a E_8b V_8b C_8b K_8b (StrChars.Road.codOf rfl (fun c hc => (p_8b c hc).2)) (own_up p_8b) l_8b (Scs.ext (O0.keep K_9 all0).2) hcs (by decide) (by decide)) q_10a q_10c (g := (mkF m 18 #[.val (.ref o1)] [(.ref a_7), (.ref a1)])) rfl (by rw [hml]; rfl) (Steps.refl _) (argsL := [(.ref a_7)]) (rest := []) (lenOf pd_4 rfl) rfl (by show 2 * 0 + _ ≤ _; exact Nat.le_of_eq rfl) (hb hby d9_18) (fun _ _ => ⟨rfl, e_7, (by decide : 4 + 0 ≤ _), (by decide : 48 + 0 ≤ _)⟩)
    dsimp only [Pt.U, Pt.locs, Pt.cells, Pt.slots] at X_10 l_10 y_10 z_10 st_10 hQ_10
    subst l_10 y_10 z_10
    obtain ⟨hv_10, rfl, e_10⟩ := hQ_10
    have N_10 := Fr.app N_5 (Fr.nil n0)
    rcases hv_10 with ⟨rfl, hq_10⟩ | ⟨rfl, hq_10⟩
    · refine own_via (fun _ k => st_10.trans k) ?_
      show own_Go p e below _ (T_10.setTop (mkF m 21 #[.val (.ref o1)] [(.int (1 : Int32))]))
      refine own_via (fun _ => XS.ifYes X_10.here hx rfl (pc0 := 21) (pc' := 28) rfl (hb hby d9_21) rfl ((if0 _ _).trans (feq ((by decide) : ¬ ((1 : Int32) = (0 : Int32)))).2) (by decide) (by decide)) ?_
      show own_Go p e below _ (T_10.setTop (mkF m 28 #[.val (.ref o1)] []))
      refine own_via (fun _ => XS.iconst X_10.here hx rfl (hb hby d9_28)) ?_
      show own_Go p e below _ (T_10.setTop (mkF m 29 #[.val (.ref o1)] [(.int (0 : Int32))]))
      exact own_retvW X_10 hS_7 (by rw [e_10]; exact hk_7) Bd.notSynchronized hx Bd.returns rfl (Or.inl ⟨rfl, (by simp), _, rfl⟩) (hb hby d9_29) (by decide) (by decide) (by rw [e_10]; exact ⟨(0 : Int32), rfl, N_10, K_9, (by simp_all), (own_CHstay J_7 hZ_7 (own_EW hw) X_10.warmed)⟩)
    · refine own_via (fun _ k => st_10.trans k) ?_
      show own_Go p e below _ (T_10.setTop (mkF m 21 #[.val (.ref o1)] [(.int (0 : Int32))]))
      refine own_via (fun _ => XS.ifNo X_10.here hx rfl (hb hby d9_21) rfl ((if0 _ _).trans (teq ((by decide) : (0 : Int32) = (0 : Int32))).2)) ?_
      show own_Go p e below _ (T_10.setTop (mkF m 24 #[.val (.ref o1)] []))
      refine own_via (fun _ => XS.iconst X_10.here hx rfl (hb hby d9_24)) ?_
      show own_Go p e below _ (T_10.setTop (mkF m 25 #[.val (.ref o1)] [(.int (1 : Int32))]))
      refine own_via (fun _ => XS.goto X_10.here hx rfl (pc0 := 25) (pc' := 29) rfl (hb hby d9_25) (by decide) (by decide)) ?_
      show own_Go p e below _ (T_10.setTop (mkF m 29 #[.val (.ref o1)] [(.int (1 : Int32))]))
      exact own_retvW X_10 hS_7 (by rw [e_10]; exact hk_7) Bd.notSynchronized hx Bd.returns rfl (Or.inl ⟨rfl, (by simp), _, rfl⟩) (hb hby d9_29) (by decide) (by decide) (by rw [e_10]; exact ⟨(1 : Int32), rfl, N_10, K_9, (by simp_all), (own_CHstay J_7 hZ_7 (own_EW hw) X_10.warmed)⟩)
theorem pd_5 : parseMethodDescriptor "(JI)C" = some ⟨[.long, .int], some .char⟩ := by decide +kernel
theorem pd_6 : parseMethodDescriptor "([C)V" = some ⟨[(.array .char)], none⟩ := by decide +kernel
theorem pd_7 : parseMethodDescriptor "(Ljava/lang/String;Lcom/example/cascadilla/cascadilla/language/Label;I)V" = some ⟨[(.object "java/lang/String"), (.object "com/example/cascadilla/cascadilla/language/Label"), .int], none⟩ := by decide +kernel
theorem pd_8 : parseMethodDescriptor "()Z" = some ⟨[], some .boolean⟩ := by decide +kernel
theorem ef_0 (m : MethodId) (p1 : Int32) (p2 : Int32) (q3 : Int64) (p4 : Int32) (p5 : Int32) (p6 : Int32) : entryFrame m #[(.int p1), (.int p2), (.long q3), (.int p4), (.int p5), (.int p6)] maxLocals = mkF m 0 #[.val (.int p1), .val (.int p2), .val (.long q3), .second, .val (.int p4), .val (.int p5), .val (.int p6), .unset, .unset, .unset, .unset, .unset, .unset, .unset, .unset, .unset] [] := by first | (simp [entryFrame, mkF, argsToLocals, Value.category, maxLocals]; done) | rfl
def Q0 (Z : State) (p1 : Int32) (p2 : Int32) (q3 : Int64) (p4 : Int32) (p5 : Int32) (p6 : Int32) (cs : Int32) (h0 : Heap) (n0 : Nat) (v : Option Value) (h : Heap) (L : List Loc) (vm : Vm) : Prop := v = some (.int (1 : Int32)) ∧ Fr n0 L ∧ Keep h0 h []
set_option maxRecDepth 65536 in
set_option maxHeartbeats 40000000 in
theorem rm0 (l : Launch) (Z : State) (a0 : Array Value) (hw : ∀ d ∈ tables_1, d.before a0 Z = true) (ws : List Jvm.Cond) (p1 : Int32) (p2 : Int32) (q3 : Int64) (p4 : Int32) (p5 : Int32) (p6 : Int32) (cs : Int32) (h0 : Heap) (n0 : Nat) (Z0 : n0 ≤ h0.size) (O0 : Old Z n0 h0) (Scs : Sta Z Z.heap "java/lang/String" "COMPACT_STRINGS" "Z" (.int cs)) (hcs : ¬ (cs = (0 : Int32))) :
    MetFree l x (head1 (Jvm.Cond.code x code maxLocals ret :: ws) room_1) (fun a U => a = #[(.int p1), (.int p2), (.long q3), (.int p4), (.int p5), (.int p6)] ∧ Z.Warmed39 U.vm ∧ U.heap = h0 ∧ CHv Z consts_1 U.vm h0) (fun _ _ _ _ _ => True) (fun _ U o U' => ∃ v L, o = .returned v ∧ Q0 Z p1 p2 q3 p4 p5 p6 cs h0 n0 v U'.heap L U'.vm ∧ ReturnedEndW U o U' L room_1.cells room_1.slots) := by
  refine MetFree.of_bodySF (plainFor_of_name pn_com_example_cascadilla_cascadilla_language_TypeIsClassPinLaw) hisR ?_
  intro p e s m args below meth c s₁ Bd hml0 hP hK
  obtain ⟨rfl, hZ, hH0, J0⟩ := hP
  have hx := Bd.exec
  have hby := Bd.bytes
  have hml : c.maxLocals = 16 := hml0
  have hown : s.vm.findClass "com/example/cascadilla/cascadilla/language/TypeIsClassPinLaw" = some m.cls := findClass_of_methodNamed Bd.named
  have hnm := (name_of_methodNamed Bd.named Bd.method).1
  have X0 : Stand p l e room_1 (s.setVm s.vm) m #[(.int p1), (.int p2), (.long q3), (.int p4), (.int p5), (.int p6)] below meth c s₁ [] 0 0 := Stand.of_body Bd
  have hS0 : s.Since s.vm 0 := (State.WarmedH.refl s).since 0
  have e0 : s₁.heap = h0 := by rw [← hH0, Bd.state]; rfl
  have N0 := Fr.nil n0
  refine own_cast (ef_0 m p1 p2 q3 p4 p5 p6) ?_
  show own_Go p e below (fun o U' => ∃ v L, o = .returned v ∧ Q0 Z p1 p2 q3 p4 p5 p6 cs h0 n0 v U'.heap L U'.vm ∧ ReturnedEndW s o U' L room_1.cells room_1.slots) (s₁.setTop (mkF m 0 #[.val (.int p1), .val (.int p2), .val (.long q3), .second, .val (.int p4), .val (.int p5), .val (.int p6), .unset, .unset, .unset, .unset, .unset, .unset, .unset, .unset, .unset] []))
  refine own_via (fun _ => XS.iloadN X0.here hx rfl (hb hby at_0) rfl) ?_
  show own_Go p e below _ (s₁.setTop (mkF m 1 #[.val (.int p1), .val (.int p2), .val (.long q3), .second, .val (.int p4), .val (.int p5), .val (.int p6), .unset, .unset, .unset, .unset, .unset, .unset, .unset, .unset, .unset] [(.int p1)]))
  refine own_via (fun _ => XS.iconst X0.here hx rfl (hb hby at_1)) ?_
  show own_Go p e below _ (s₁.setTop (mkF m 2 #[.val (.int p1), .val (.int p2), .val (.long q3), .second, .val (.int p4), .val (.int p5), .val (.int p6), .unset, .unset, .unset, .unset, .unset, .unset, .unset, .unset, .unset] [(.int (3 : Int32)), (.int p1)]))
  refine own_via (fun _ => XS.iand X0.here hx rfl (hb hby at_2) rfl) ?_
  show own_Go p e below _ (s₁.setTop (mkF m 3 #[.val (.int p1), .val (.int p2), .val (.long q3), .second, .val (.int p4), .val (.int p5), .val (.int p6), .unset, .unset, .unset, .unset, .unset, .unset, .unset, .unset, .unset] [(.int (p1 &&& (3 : Int32)))]))
  refine own_via (fun _ => XS.istore X0.here hx rfl (hb hby at_3) rfl (l' := #[.val (.int p1), .val (.int p2), .val (.long q3), .second, .val (.int p4), .val (.int p5), .val (.int p6), .val (.int (p1 &&& (3 : Int32))), .unset, .unset, .unset, .unset, .unset, .unset, .unset, .unset]) rfl) ?_
  show own_Go p e below _ (s₁.setTop (mkF m 5 #[.val (.int p1), .val (.int p2), .val (.long q3), .second, .val (.int p4), .val (.int p5), .val (.int p6), .val (.int (p1 &&& (3 : Int32))), .unset, .unset, .unset, .unset, .unset, .unset, .unset, .unset] []))
  refine own_via (fun _ => XS.bipush X0.here hx rfl (hb hby at_5)) ?_
  show own_Go p e below _ (s₁.setTop (mkF m 7 #[.val (.int p1), .val (.int p2), .val (.long q3), .second, .val (.int p4), .val (.int p5), .val (.int p6), .val (.int (p1 &&& (3 : Int32))), .unset, .unset, .unset, .unset, .unset, .unset, .unset, .unset] [(.int (7 : Int32))]))
  obtain ⟨T_1, h_1, k_1, X_1, e_1, E_1, A_1, st_1⟩ := newP X0 hx hZ (own_w hw 0 rfl) e0 (g := (mkF m 7 #[.val (.int p1), .val (.int p2), .val (.long q3), .second, .val (.int p4), .val (.int p5), .val (.int p6), .val (.int (p1 &&& (3 : Int32))), .unset, .unset, .unset, .unset, .unset, .unset, .unset, .unset] [(.int (7 : Int32))])) rfl (hb hby at_7) rfl (by decide) (cap := 7) (by decide) (by decide) (by decide) (by decide)
  obtain ⟨b_1, g_1⟩ : ∃ z, z = h0.size := ⟨_, rfl⟩
  rw [← g_1] at A_1 st_1
  have V_1 : Arv Z h_1 b_1 k_1 .char (7 : Int32) [(.int (0 : Int32)), (.int (0 : Int32)), (.int (0 : Int32)), (.int (0 : Int32)), (.int (0 : Int32)), (.int (0 : Int32)), (.int (0 : Int32))] (.int (0 : Int32)) := (Arv.new A_1 (by decide)).pad (pad_rep [] (.int (0 : Int32)) 7)
  refine own_via st_1 ?_
  show own_Go p e below _ (T_1.setTop (mkF m 9 #[.val (.int p1), .val (.int p2), .val (.long q3), .second, .val (.int p4), .val (.int p5), .val (.int p6), .val (.int (p1 &&& (3 : Int32))), .unset, .unset, .unset, .unset, .unset, .unset, .unset, .unset] [(.ref b_1)]))
  refine own_via (fun _ => XS.astore X_1.here hx rfl (hb hby at_9) rfl rfl (l' := #[.val (.int p1), .val (.int p2), .val (.long q3), .second, .val (.int p4), .val (.int p5), .val (.int p6), .val (.int (p1 &&& (3 : Int32))), .val (.ref b_1), .unset, .unset, .unset, .unset, .unset, .unset, .unset]) rfl) ?_
  show own_Go p e below _ (T_1.setTop (mkF m 11 #[.val (.int p1), .val (.int p2), .val (.long q3), .second, .val (.int p4), .val (.int p5), .val (.int p6), .val (.int (p1 &&& (3 : Int32))), .val (.ref b_1), .unset, .unset, .unset, .unset, .unset, .unset, .unset] []))
  refine own_via (fun _ => XS.aload X_1.here hx rfl (hb hby at_11) rfl rfl) ?_
  show own_Go p e below _ (T_1.setTop (mkF m 13 #[.val (.int p1), .val (.int p2), .val (.long q3), .second, .val (.int p4), .val (.int p5), .val (.int p6), .val (.int (p1 &&& (3 : Int32))), .val (.ref b_1), .unset, .unset, .unset, .unset, .unset, .unset, .unset] [(.ref b_1)]))
  refine own_via (fun _ => XS.iconst X_1.here hx rfl (hb hby at_13)) ?_
  show own_Go p e below _ (T_1.setTop (mkF m 14 #[.val (.int p1), .val (.int p2), .val (.long q3), .second, .val (.int p4), .val (.int p5), .val (.int p6), .val (.int (p1 &&& (3 : Int32))), .val (.ref b_1), .unset, .unset, .unset, .unset, .unset, .unset, .unset] [(.int (0 : Int32)), (.ref b_1)]))
  refine own_via (fun _ => XS.lloadN X_1.here hx rfl (hb hby at_14) rfl) ?_
  show own_Go p e below _ (T_1.setTop (mkF m 15 #[.val (.int p1), .val (.int p2), .val (.long q3), .second, .val (.int p4), .val (.int p5), .val (.int p6), .val (.int (p1 &&& (3 : Int32))), .val (.ref b_1), .unset, .unset, .unset, .unset, .unset, .unset, .unset] [(.long q3), (.int (0 : Int32)), (.ref b_1)]))
  refine own_via (fun _ => XS.iconst X_1.here hx rfl (hb hby at_15)) ?_
  show own_Go p e below _ (T_1.setTop (mkF m 16 #[.val (.int p1), .val (.int p2), .val (.long q3), .second, .val (.int p4), .val (.int p5), .val (.int p6), .val (.int (p1 &&& (3 : Int32))), .val (.ref b_1), .unset, .unset, .unset, .unset, .unset, .unset, .unset] [(.int (0 : Int32)), (.long q3), (.int (0 : Int32)), (.ref b_1)]))
  have K_2 : Keep h0 h_1 [] := (Keep.refl h0 []).ext E_1
  obtain ⟨_, _, ⟨T_3, L_3, k_3, n_3⟩, -, X_3, ⟨Lc_3, hQ_3, l_3, y_3, z_3⟩, st_3⟩ := Jvm.LawKit.callS X_1 hx (y := (⟨"com/example/cascadilla/cascadilla/language/TypeIsClassPinLaw", "drawn", "(JI)C"⟩ : MethodName)) hown (mvT hZ (own_w hw 1 rfl)) (mvT hZ (own_w hw 2 rfl)) (mvT hZ (own_w hw 3 rfl)) (mvT hZ (own_w hw 4 rfl)) (by decide) (backOf (W := 2) (rmdrawn l Z a0 hw [] q3 (0 : Int32) h_1 n0 (Nat.le_trans Z0 K_2.1) ) hZ (own_w hw 4 rfl) (own_w hw 3 rfl) (by decide) (by decide)) (g := (mkF m 16 #[.val (.int p1), .val (.int p2), .val (.long q3), .second, .val (.int p4), .val (.int p5), .val (.int p6), .val (.int (p1 &&& (3 : Int32))), .val (.ref b_1), .unset, .unset, .unset, .unset, .unset, .unset, .unset] [(.int (0 : Int32)), (.long q3), (.int (0 : Int32)), (.ref b_1)])) rfl (by rw [hml]; rfl) (argsL := [(.long q3), (.int (0 : Int32))]) (rest := [(.int (0 : Int32)), (.ref b_1)]) (lenOf pd_5 rfl) rfl (by show 2 * 0 + _ ≤ _; exact Nat.le_of_eq rfl) (hb hby at_16) (fun _ _ => ⟨rfl, e_1, (by decide : 1 + 0 ≤ _), (by decide : 7 + 0 ≤ _)⟩)
  dsimp only [Pt.U, Pt.locs, Pt.cells, Pt.slots] at X_3 l_3 y_3 z_3 st_3 hQ_3
  subst l_3 y_3 z_3
  obtain ⟨c0, rfl, Nq_3, e_3, q_3_0⟩ := hQ_3
  have N_3 := Fr.app N0 Nq_3
  refine own_via st_3 ?_
  show own_Go p e below _ (T_3.setTop (mkF m 19 #[.val (.int p1), .val (.int p2), .val (.long q3), .second, .val (.int p4), .val (.int p5), .val (.int p6), .val (.int (p1 &&& (3 : Int32))), .val (.ref b_1), .unset, .unset, .unset, .unset, .unset, .unset, .unset] [(.int c0), (.int (0 : Int32)), (.ref b_1)]))
  obtain ⟨cl_4, Ar_4, q_4, S_4, M_4, H_4, G_4⟩ := (id V_1)
  obtain ⟨T_4, h_4, X_4, e_4, W_4, st_4⟩ := stC X_3 hx hZ e_3 Ar_4 (j := (0 : Int32)) (inb_of S_4 ⟨by decide, by decide⟩) (g := (mkF m 19 #[.val (.int p1), .val (.int p2), .val (.long q3), .second, .val (.int p4), .val (.int p5), .val (.int p6), .val (.int (p1 &&& (3 : Int32))), .val (.ref b_1), .unset, .unset, .unset, .unset, .unset, .unset, .unset] [(.int c0), (.int (0 : Int32)), (.ref b_1)])) rfl rfl (hb hby at_19)
  have V_4 : Arv Z h_4 b_1 k_1 .char (7 : Int32) [(.int (nar .char c0)), (.int (0 : Int32)), (.int (0 : Int32)), (.int (0 : Int32)), (.int (0 : Int32)), (.int (0 : Int32)), (.int (0 : Int32))] (.int (0 : Int32)) := Arv.set Ar_4 q_4 S_4 M_4 H_4 G_4 (fits_nar_char _) W_4 0 rfl (Nat.le_of_ble_eq_true rfl)
  have N_4 := Fr.snoc X_4 N_3 (Nat.le_trans Z0 (Nat.le_of_eq g_1.symm))
  refine own_via st_4 ?_
  show own_Go p e below _ (T_4.setTop (mkF m 20 #[.val (.int p1), .val (.int p2), .val (.long q3), .second, .val (.int p4), .val (.int p5), .val (.int p6), .val (.int (p1 &&& (3 : Int32))), .val (.ref b_1), .unset, .unset, .unset, .unset, .unset, .unset, .unset] []))
  have V_5 : Arv Z h_4 b_1 k_1 .char (7 : Int32) [(.int c0), (.int (0 : Int32)), (.int (0 : Int32)), (.int (0 : Int32)), (.int (0 : Int32)), (.int (0 : Int32)), (.int (0 : Int32))] (.int (0 : Int32)) := by have q := V_4; rwa [own_nar q_3_0] at q
  refine own_via (fun _ => XS.aload X_4.here hx rfl (hb hby at_20) rfl rfl) ?_
  show own_Go p e below _ (T_4.setTop (mkF m 22 #[.val (.int p1), .val (.int p2), .val (.long q3), .second, .val (.int p4), .val (.int p5), .val (.int p6), .val (.int (p1 &&& (3 : Int32))), .val (.ref b_1), .unset, .unset, .unset, .unset, .unset, .unset, .unset] [(.ref b_1)]))
  refine own_via (fun _ => XS.iconst X_4.here hx rfl (hb hby at_22)) ?_
  show own_Go p e below _ (T_4.setTop (mkF m 23 #[.val (.int p1), .val (.int p2), .val (.long q3), .second, .val (.int p4), .val (.int p5), .val (.int p6), .val (.int (p1 &&& (3 : Int32))), .val (.ref b_1), .unset, .unset, .unset, .unset, .unset, .unset, .unset] [(.int (1 : Int32)), (.ref b_1)]))
  refine own_via (fun _ => XS.lloadN X_4.here hx rfl (hb hby at_23) rfl) ?_
  show own_Go p e below _ (T_4.setTop (mkF m 24 #[.val (.int p1), .val (.int p2), .val (.long q3), .second, .val (.int p4), .val (.int p5), .val (.int p6), .val (.int (p1 &&& (3 : Int32))), .val (.ref b_1), .unset, .unset, .unset, .unset, .unset, .unset, .unset] [(.long q3), (.int (1 : Int32)), (.ref b_1)]))
  refine own_via (fun _ => XS.iconst X_4.here hx rfl (hb hby at_24)) ?_
  show own_Go p e below _ (T_4.setTop (mkF m 25 #[.val (.int p1), .val (.int p2), .val (.long q3), .second, .val (.int p4), .val (.int p5), .val (.int p6), .val (.int (p1 &&& (3 : Int32))), .val (.ref b_1), .unset, .unset, .unset, .unset, .unset, .unset, .unset] [(.int (1 : Int32)), (.long q3), (.int (1 : Int32)), (.ref b_1)]))
  have K_6 : Keep h0 h_4 [] := Keep.wr (ws := []) K_2 W_4 (Or.inr (Nat.le_of_eq g_1.symm))
  obtain ⟨_, _, ⟨T_7, L_7, k_7, n_7⟩, -, X_7, ⟨Lc_7, hQ_7, l_7, y_7, z_7⟩, st_7⟩ := Jvm.LawKit.callS X_4 hx (y := (⟨"com/example/cascadilla/cascadilla/language/TypeIsClassPinLaw", "drawn", "(JI)C"⟩ : MethodName)) hown (mvT hZ (own_w hw 1 rfl)) (mvT hZ (own_w hw 2 rfl)) (mvT hZ (own_w hw 3 rfl)) (mvT hZ (own_w hw 4 rfl)) (by decide) (backOf (W := 2) (rmdrawn l Z a0 hw [] q3 (1 : Int32) h_4 n0 (Nat.le_trans Z0 K_6.1) ) hZ (own_w hw 4 rfl) (own_w hw 3 rfl) (by decide) (by decide)) (g := (mkF m 25 #[.val (.int p1), .val (.int p2), .val (.long q3), .second, .val (.int p4), .val (.int p5), .val (.int p6), .val (.int (p1 &&& (3 : Int32))), .val (.ref b_1), .unset, .unset, .unset, .unset, .unset, .unset, .unset] [(.int (1 : Int32)), (.long q3), (.int (1 : Int32)), (.ref b_1)])) rfl (by rw [hml]; rfl) (argsL := [(.long q3), (.int (1 : Int32))]) (rest := [(.int (1 : Int32)), (.ref b_1)]) (lenOf pd_5 rfl) rfl (by show 2 * 0 + _ ≤ _; exact Nat.le_of_eq rfl) (hb hby at_25) (fun _ _ => ⟨rfl, e_4, (by decide : 1 + 0 ≤ _), (by decide : 7 + 0 ≤ _)⟩)
  dsimp only [Pt.U, Pt.locs, Pt.cells, Pt.slots] at X_7 l_7 y_7 z_7 st_7 hQ_7
  subst l_7 y_7 z_7
  obtain ⟨c1, rfl, Nq_7, e_7, q_7_0⟩ := hQ_7
  have N_7 := Fr.app N_4 Nq_7
  refine own_via st_7 ?_
  show own_Go p e below _ (T_7.setTop (mkF m 28 #[.val (.int p1), .val (.int p2), .val (.long q3), .second, .val (.int p4), .val (.int p5), .val (.int p6), .val (.int (p1 &&& (3 : Int32))), .val (.ref b_1), .unset, .unset, .unset, .unset, .unset, .unset, .unset] [(.int c1), (.int (1 : Int32)), (.ref b_1)]))
  obtain ⟨cl_8, Ar_8, q_8, S_8, M_8, H_8, G_8⟩ := (id V_5)
  obtain ⟨T_8, h_8, X_8, e_8, W_8, st_8⟩ := stC X_7 hx hZ e_7 Ar_8 (j := (1 : Int32)) (inb_of S_8 ⟨by decide, by decide⟩) (g := (mkF m 28 #[.val (.int p1), .val (.int p2), .val (.long q3), .second, .val (.int p4), .val (.int p5), .val (.int p6), .val (.int (p1 &&& (3 : Int32))), .val (.ref b_1), .unset, .unset, .unset, .unset, .unset, .unset, .unset] [(.int c1), (.int (1 : Int32)), (.ref b_1)])) rfl rfl (hb hby at_28)
  have V_8 : Arv Z h_8 b_1 k_1 .char (7 : Int32) [(.int c0), (.int (nar .char c1)), (.int (0 : Int32)), (.int (0 : Int32)), (.int (0 : Int32)), (.int (0 : Int32)), (.int (0 : Int32))] (.int (0 : Int32)) := Arv.set Ar_8 q_8 S_8 M_8 H_8 G_8 (fits_nar_char _) W_8 1 rfl (Nat.le_of_ble_eq_true rfl)
  have N_8 := Fr.snoc X_8 N_7 (Nat.le_trans Z0 (Nat.le_of_eq g_1.symm))
  refine own_via st_8 ?_
  show own_Go p e below _ (T_8.setTop (mkF m 29 #[.val (.int p1), .val (.int p2), .val (.long q3), .second, .val (.int p4), .val (.int p5), .val (.int p6), .val (.int (p1 &&& (3 : Int32))), .val (.ref b_1), .unset, .unset, .unset, .unset, .unset, .unset, .unset] []))
  have V_9 : Arv Z h_8 b_1 k_1 .char (7 : Int32) [(.int c0), (.int c1), (.int (0 : Int32)), (.int (0 : Int32)), (.int (0 : Int32)), (.int (0 : Int32)), (.int (0 : Int32))] (.int (0 : Int32)) := by have q := V_8; rwa [own_nar q_7_0] at q
  refine own_via (fun _ => XS.aload X_8.here hx rfl (hb hby at_29) rfl rfl) ?_
  show own_Go p e below _ (T_8.setTop (mkF m 31 #[.val (.int p1), .val (.int p2), .val (.long q3), .second, .val (.int p4), .val (.int p5), .val (.int p6), .val (.int (p1 &&& (3 : Int32))), .val (.ref b_1), .unset, .unset, .unset, .unset, .unset, .unset, .unset] [(.ref b_1)]))
  refine own_via (fun _ => XS.iconst X_8.here hx rfl (hb hby at_31)) ?_
  show own_Go p e below _ (T_8.setTop (mkF m 32 #[.val (.int p1), .val (.int p2), .val (.long q3), .second, .val (.int p4), .val (.int p5), .val (.int p6), .val (.int (p1 &&& (3 : Int32))), .val (.ref b_1), .unset, .unset, .unset, .unset, .unset, .unset, .unset] [(.int (2 : Int32)), (.ref b_1)]))
  refine own_via (fun _ => XS.lloadN X_8.here hx rfl (hb hby at_32) rfl) ?_
  show own_Go p e below _ (T_8.setTop (mkF m 33 #[.val (.int p1), .val (.int p2), .val (.long q3), .second, .val (.int p4), .val (.int p5), .val (.int p6), .val (.int (p1 &&& (3 : Int32))), .val (.ref b_1), .unset, .unset, .unset, .unset, .unset, .unset, .unset] [(.long q3), (.int (2 : Int32)), (.ref b_1)]))
  refine own_via (fun _ => XS.iconst X_8.here hx rfl (hb hby at_33)) ?_
  show own_Go p e below _ (T_8.setTop (mkF m 34 #[.val (.int p1), .val (.int p2), .val (.long q3), .second, .val (.int p4), .val (.int p5), .val (.int p6), .val (.int (p1 &&& (3 : Int32))), .val (.ref b_1), .unset, .unset, .unset, .unset, .unset, .unset, .unset] [(.int (2 : Int32)), (.long q3), (.int (2 : Int32)), (.ref b_1)]))
  have K_10 : Keep h0 h_8 [] := Keep.wr (ws := []) K_6 W_8 (Or.inr (Nat.le_of_eq g_1.symm))
  obtain ⟨_, _, ⟨T_11, L_11, k_11, n_11⟩, -, X_11, ⟨Lc_11, hQ_11, l_11, y_11, z_11⟩, st_11⟩ := Jvm.LawKit.callS X_8 hx (y := (⟨"com/example/cascadilla/cascadilla/language/TypeIsClassPinLaw", "drawn", "(JI)C"⟩ : MethodName)) hown (mvT hZ (own_w hw 1 rfl)) (mvT hZ (own_w hw 2 rfl)) (mvT hZ (own_w hw 3 rfl)) (mvT hZ (own_w hw 4 rfl)) (by decide) (backOf (W := 2) (rmdrawn l Z a0 hw [] q3 (2 : Int32) h_8 n0 (Nat.le_trans Z0 K_10.1) ) hZ (own_w hw 4 rfl) (own_w hw 3 rfl) (by decide) (by decide)) (g := (mkF m 34 #[.val (.int p1), .val (.int p2), .val (.long q3), .second, .val (.int p4), .val (.int p5), .val (.int p6), .val (.int (p1 &&& (3 : Int32))), .val (.ref b_1), .unset, .unset, .unset, .unset, .unset, .unset, .unset] [(.int (2 : Int32)), (.long q3), (.int (2 : Int32)), (.ref b_1)])) rfl (by rw [hml]; rfl) (argsL := [(.long q3), (.int (2 : Int32))]) (rest := [(.int (2 : Int32)), (.ref b_1)]) (lenOf pd_5 rfl) rfl (by show 2 * 0 + _ ≤ _; exact Nat.le_of_eq rfl) (hb hby at_34) (fun _ _ => ⟨rfl, e_8, (by decide : 1 + 0 ≤ _), (by decide : 7 + 0 ≤ _)⟩)
  dsimp only [Pt.U, Pt.locs, Pt.cells, Pt.slots] at X_11 l_11 y_11 z_11 st_11 hQ_11
  subst l_11 y_11 z_11
  obtain ⟨c2, rfl, Nq_11, e_11, q_11_0⟩ := hQ_11
  have N_11 := Fr.app N_8 Nq_11
  refine own_via st_11 ?_
  show own_Go p e below _ (T_11.setTop (mkF m 37 #[.val (.int p1), .val (.int p2), .val (.long q3), .second, .val (.int p4), .val (.int p5), .val (.int p6), .val (.int (p1 &&& (3 : Int32))), .val (.ref b_1), .unset, .unset, .unset, .unset, .unset, .unset, .unset] [(.int c2), (.int (2 : Int32)), (.ref b_1)]))
  obtain ⟨cl_12, Ar_12, q_12, S_12, M_12, H_12, G_12⟩ := (id V_9)
  obtain ⟨T_12, h_12, X_12, e_12, W_12, st_12⟩ := stC X_11 hx hZ e_11 Ar_12 (j := (2 : Int32)) (inb_of S_12 ⟨by decide, by decide⟩) (g := (mkF m 37 #[.val (.int p1), .val (.int p2), .val (.long q3), .second, .val (.int p4), .val (.int p5), .val (.int p6), .val (.int (p1 &&& (3 : Int32))), .val (.ref b_1), .unset, .unset, .unset, .unset, .unset, .unset, .unset] [(.int c2), (.int (2 : Int32)), (.ref b_1)])) rfl rfl (hb hby at_37)
  have V_12 : Arv Z h_12 b_1 k_1 .char (7 : Int32) [(.int c0), (.int c1), (.int (nar .char c2)), (.int (0 : Int32)), (.int (0 : Int32)), (.int (0 : Int32)), (.int (0 : Int32))] (.int (0 : Int32)) := Arv.set Ar_12 q_12 S_12 M_12 H_12 G_12 (fits_nar_char _) W_12 2 rfl (Nat.le_of_ble_eq_true rfl)
  have N_12 := Fr.snoc X_12 N_11 (Nat.le_trans Z0 (Nat.le_of_eq g_1.symm))
  refine own_via st_12 ?_
  show own_Go p e below _ (T_12.setTop (mkF m 38 #[.val (.int p1), .val (.int p2), .val (.long q3), .second, .val (.int p4), .val (.int p5), .val (.int p6), .val (.int (p1 &&& (3 : Int32))), .val (.ref b_1), .unset, .unset, .unset, .unset, .unset, .unset, .unset] []))
  have V_13 : Arv Z h_12 b_1 k_1 .char (7 : Int32) [(.int c0), (.int c1), (.int c2), (.int (0 : Int32)), (.int (0 : Int32)), (.int (0 : Int32)), (.int (0 : Int32))] (.int (0 : Int32)) := by have q := V_12; rwa [own_nar q_11_0] at q
  refine own_via (fun _ => XS.aload X_12.here hx rfl (hb hby at_38) rfl rfl) ?_
  show own_Go p e below _ (T_12.setTop (mkF m 40 #[.val (.int p1), .val (.int p2), .val (.long q3), .second, .val (.int p4), .val (.int p5), .val (.int p6), .val (.int (p1 &&& (3 : Int32))), .val (.ref b_1), .unset, .unset, .unset, .unset, .unset, .unset, .unset] [(.ref b_1)]))
  refine own_via (fun _ => XS.iconst X_12.here hx rfl (hb hby at_40)) ?_
  show own_Go p e below _ (T_12.setTop (mkF m 41 #[.val (.int p1), .val (.int p2), .val (.long q3), .second, .val (.int p4), .val (.int p5), .val (.int p6), .val (.int (p1 &&& (3 : Int32))), .val (.ref b_1), .unset, .unset, .unset, .unset, .unset, .unset, .unset] [(.int (3 : Int32)), (.ref b_1)]))
  refine own_via (fun _ => XS.lloadN X_12.here hx rfl (hb hby at_41) rfl) ?_
  show own_Go p e below _ (T_12.setTop (mkF m 42 #[.val (.int p1), .val (.int p2), .val (.long q3), .second, .val (.int p4), .val (.int p5), .val (.int p6), .val (.int (p1 &&& (3 : Int32))), .val (.ref b_1), .unset, .unset, .unset, .unset, .unset, .unset, .unset] [(.long q3), (.int (3 : Int32)), (.ref b_1)]))
  refine own_via (fun _ => XS.iconst X_12.here hx rfl (hb hby at_42)) ?_
  show own_Go p e below _ (T_12.setTop (mkF m 43 #[.val (.int p1), .val (.int p2), .val (.long q3), .second, .val (.int p4), .val (.int p5), .val (.int p6), .val (.int (p1 &&& (3 : Int32))), .val (.ref b_1), .unset, .unset, .unset, .unset, .unset, .unset, .unset] [(.int (3 : Int32)), (.long q3), (.int (3 : Int32)), (.ref b_1)]))
  have K_14 : Keep h0 h_12 [] := Keep.wr (ws := []) K_10 W_12 (Or.inr (Nat.le_of_eq g_1.symm))
  obtain ⟨_, _, ⟨T_15, L_15, k_15, n_15⟩, -, X_15, ⟨Lc_15, hQ_15, l_15, y_15, z_15⟩, st_15⟩ := Jvm.LawKit.callS X_12 hx (y := (⟨"com/example/cascadilla/cascadilla/language/TypeIsClassPinLaw", "drawn", "(JI)C"⟩ : MethodName)) hown (mvT hZ (own_w hw 1 rfl)) (mvT hZ (own_w hw 2 rfl)) (mvT hZ (own_w hw 3 rfl)) (mvT hZ (own_w hw 4 rfl)) (by decide) (backOf (W := 2) (rmdrawn l Z a0 hw [] q3 (3 : Int32) h_12 n0 (Nat.le_trans Z0 K_14.1) ) hZ (own_w hw 4 rfl) (own_w hw 3 rfl) (by decide) (by decide)) (g := (mkF m 43 #[.val (.int p1), .val (.int p2), .val (.long q3), .second, .val (.int p4), .val (.int p5), .val (.int p6), .val (.int (p1 &&& (3 : Int32))), .val (.ref b_1), .unset, .unset, .unset, .unset, .unset, .unset, .unset] [(.int (3 : Int32)), (.long q3), (.int (3 : Int32)), (.ref b_1)])) rfl (by rw [hml]; rfl) (argsL := [(.long q3), (.int (3 : Int32))]) (rest := [(.int (3 : Int32)), (.ref b_1)]) (lenOf pd_5 rfl) rfl (by show 2 * 0 + _ ≤ _; exact Nat.le_of_eq rfl) (hb hby at_43) (fun _ _ => ⟨rfl, e_12, (by decide : 1 + 0 ≤ _), (by decide : 7 + 0 ≤ _)⟩)
  dsimp only [Pt.U, Pt.locs, Pt.cells, Pt.slots] at X_15 l_15 y_15 z_15 st_15 hQ_15
  subst l_15 y_15 z_15
  obtain ⟨c3, rfl, Nq_15, e_15, q_15_0⟩ := hQ_15
  have N_15 := Fr.app N_12 Nq_15
  refine own_via st_15 ?_
  show own_Go p e below _ (T_15.setTop (mkF m 46 #[.val (.int p1), .val (.int p2), .val (.long q3), .second, .val (.int p4), .val (.int p5), .val (.int p6), .val (.int (p1 &&& (3 : Int32))), .val (.ref b_1), .unset, .unset, .unset, .unset, .unset, .unset, .unset] [(.int c3), (.int (3 : Int32)), (.ref b_1)]))
  obtain ⟨cl_16, Ar_16, q_16, S_16, M_16, H_16, G_16⟩ := (id V_13)
  obtain ⟨T_16, h_16, X_16, e_16, W_16, st_16⟩ := stC X_15 hx hZ e_15 Ar_16 (j := (3 : Int32)) (inb_of S_16 ⟨by decide, by decide⟩) (g := (mkF m 46 #[.val (.int p1), .val (.int p2), .val (.long q3), .second, .val (.int p4), .val (.int p5), .val (.int p6), .val (.int (p1 &&& (3 : Int32))), .val (.ref b_1), .unset, .unset, .unset, .unset, .unset, .unset, .unset] [(.int c3), (.int (3 : Int32)), (.ref b_1)])) rfl rfl (hb hby at_46)
  have V_16 : Arv Z h_16 b_1 k_1 .char (7 : Int32) [(.int c0), (.int c1), (.int c2), (.int (nar .char c3)), (.int (0 : Int32)), (.int (0 : Int32)), (.int (0 : Int32))] (.int (0 : Int32)) := Arv.set Ar_16 q_16 S_16 M_16 H_16 G_16 (fits_nar_char _) W_16 3 rfl (Nat.le_of_ble_eq_true rfl)
  have N_16 := Fr.snoc X_16 N_15 (Nat.le_trans Z0 (Nat.le_of_eq g_1.symm))
  refine own_via st_16 ?_
  show own_Go p e below _ (T_16.setTop (mkF m 47 #[.val (.int p1), .val (.int p2), .val (.long q3), .second, .val (.int p4), .val (.int p5), .val (.int p6), .val (.int (p1 &&& (3 : Int32))), .val (.ref b_1), .unset, .unset, .unset, .unset, .unset, .unset, .unset] []))
  have V_17 : Arv Z h_16 b_1 k_1 .char (7 : Int32) [(.int c0), (.int c1), (.int c2), (.int c3), (.int (0 : Int32)), (.int (0 : Int32)), (.int (0 : Int32))] (.int (0 : Int32)) := by have q := V_16; rwa [own_nar q_15_0] at q
  refine own_via (fun _ => XS.aload X_16.here hx rfl (hb hby at_47) rfl rfl) ?_
  show own_Go p e below _ (T_16.setTop (mkF m 49 #[.val (.int p1), .val (.int p2), .val (.long q3), .second, .val (.int p4), .val (.int p5), .val (.int p6), .val (.int (p1 &&& (3 : Int32))), .val (.ref b_1), .unset, .unset, .unset, .unset, .unset, .unset, .unset] [(.ref b_1)]))
  refine own_via (fun _ => XS.iconst X_16.here hx rfl (hb hby at_49)) ?_
  show own_Go p e below _ (T_16.setTop (mkF m 50 #[.val (.int p1), .val (.int p2), .val (.long q3), .second, .val (.int p4), .val (.int p5), .val (.int p6), .val (.int (p1 &&& (3 : Int32))), .val (.ref b_1), .unset, .unset, .unset, .unset, .unset, .unset, .unset] [(.int (4 : Int32)), (.ref b_1)]))
  refine own_via (fun _ => XS.lloadN X_16.here hx rfl (hb hby at_50) rfl) ?_
  show own_Go p e below _ (T_16.setTop (mkF m 51 #[.val (.int p1), .val (.int p2), .val (.long q3), .second, .val (.int p4), .val (.int p5), .val (.int p6), .val (.int (p1 &&& (3 : Int32))), .val (.ref b_1), .unset, .unset, .unset, .unset, .unset, .unset, .unset] [(.long q3), (.int (4 : Int32)), (.ref b_1)]))
  refine own_via (fun _ => XS.iconst X_16.here hx rfl (hb hby at_51)) ?_
  show own_Go p e below _ (T_16.setTop (mkF m 52 #[.val (.int p1), .val (.int p2), .val (.long q3), .second, .val (.int p4), .val (.int p5), .val (.int p6), .val (.int (p1 &&& (3 : Int32))), .val (.ref b_1), .unset, .unset, .unset, .unset, .unset, .unset, .unset] [(.int (4 : Int32)), (.long q3), (.int (4 : Int32)), (.ref b_1)]))
  have K_18 : Keep h0 h_16 [] := Keep.wr (ws := []) K_14 W_16 (Or.inr (Nat.le_of_eq g_1.symm))
  obtain ⟨_, _, ⟨T_19, L_19, k_19, n_19⟩, -, X_19, ⟨Lc_19, hQ_19, l_19, y_19, z_19⟩, st_19⟩ := Jvm.LawKit.callS X_16 hx (y := (⟨"com/example/cascadilla/cascadilla/language/TypeIsClassPinLaw", "drawn", "(JI)C"⟩ : MethodName)) hown (mvT hZ (own_w hw 1 rfl)) (mvT hZ (own_w hw 2 rfl)) (mvT hZ (own_w hw 3 rfl)) (mvT hZ (own_w hw 4 rfl)) (by decide) (backOf (W := 2) (rmdrawn l Z a0 hw [] q3 (4 : Int32) h_16 n0 (Nat.le_trans Z0 K_18.1) ) hZ (own_w hw 4 rfl) (own_w hw 3 rfl) (by decide) (by decide)) (g := (mkF m 52 #[.val (.int p1), .val (.int p2), .val (.long q3), .second, .val (.int p4), .val (.int p5), .val (.int p6), .val (.int (p1 &&& (3 : Int32))), .val (.ref b_1), .unset, .unset, .unset, .unset, .unset, .unset, .unset] [(.int (4 : Int32)), (.long q3), (.int (4 : Int32)), (.ref b_1)])) rfl (by rw [hml]; rfl) (argsL := [(.long q3), (.int (4 : Int32))]) (rest := [(.int (4 : Int32)), (.ref b_1)]) (lenOf pd_5 rfl) rfl (by show 2 * 0 + _ ≤ _; exact Nat.le_of_eq rfl) (hb hby at_52) (fun _ _ => ⟨rfl, e_16, (by decide : 1 + 0 ≤ _), (by decide : 7 + 0 ≤ _)⟩)
  dsimp only [Pt.U, Pt.locs, Pt.cells, Pt.slots] at X_19 l_19 y_19 z_19 st_19 hQ_19
  subst l_19 y_19 z_19
  obtain ⟨c4, rfl, Nq_19, e_19, q_19_0⟩ := hQ_19
  have N_19 := Fr.app N_16 Nq_19
  refine own_via st_19 ?_
  show own_Go p e below _ (T_19.setTop (mkF m 55 #[.val (.int p1), .val (.int p2), .val (.long q3), .second, .val (.int p4), .val (.int p5), .val (.int p6), .val (.int (p1 &&& (3 : Int32))), .val (.ref b_1), .unset, .unset, .unset, .unset, .unset, .unset, .unset] [(.int c4), (.int (4 : Int32)), (.ref b_1)]))
  obtain ⟨cl_20, Ar_20, q_20, S_20, M_20, H_20, G_20⟩ := (id V_17)
  obtain ⟨T_20, h_20, X_20, e_20, W_20, st_20⟩ := stC X_19 hx hZ e_19 Ar_20 (j := (4 : Int32)) (inb_of S_20 ⟨by decide, by decide⟩) (g := (mkF m 55 #[.val (.int p1), .val (.int p2), .val (.long q3), .second, .val (.int p4), .val (.int p5), .val (.int p6), .val (.int (p1 &&& (3 : Int32))), .val (.ref b_1), .unset, .unset, .unset, .unset, .unset, .unset, .unset] [(.int c4), (.int (4 : Int32)), (.ref b_1)])) rfl rfl (hb hby at_55)
  have V_20 : Arv Z h_20 b_1 k_1 .char (7 : Int32) [(.int c0), (.int c1), (.int c2), (.int c3), (.int (nar .char c4)), (.int (0 : Int32)), (.int (0 : Int32))] (.int (0 : Int32)) := Arv.set Ar_20 q_20 S_20 M_20 H_20 G_20 (fits_nar_char _) W_20 4 rfl (Nat.le_of_ble_eq_true rfl)
  have N_20 := Fr.snoc X_20 N_19 (Nat.le_trans Z0 (Nat.le_of_eq g_1.symm))
  refine own_via st_20 ?_
  show own_Go p e below _ (T_20.setTop (mkF m 56 #[.val (.int p1), .val (.int p2), .val (.long q3), .second, .val (.int p4), .val (.int p5), .val (.int p6), .val (.int (p1 &&& (3 : Int32))), .val (.ref b_1), .unset, .unset, .unset, .unset, .unset, .unset, .unset] []))
  have V_21 : Arv Z h_20 b_1 k_1 .char (7 : Int32) [(.int c0), (.int c1), (.int c2), (.int c3), (.int c4), (.int (0 : Int32)), (.int (0 : Int32))] (.int (0 : Int32)) := by have q := V_20; rwa [own_nar q_19_0] at q
  refine own_via (fun _ => XS.aload X_20.here hx rfl (hb hby at_56) rfl rfl) ?_
  show own_Go p e below _ (T_20.setTop (mkF m 58 #[.val (.int p1), .val (.int p2), .val (.long q3), .second, .val (.int p4), .val (.int p5), .val (.int p6), .val (.int (p1 &&& (3 : Int32))), .val (.ref b_1), .unset, .unset, .unset, .unset, .unset, .unset, .unset] [(.ref b_1)]))
  refine own_via (fun _ => XS.iconst X_20.here hx rfl (hb hby at_58)) ?_
  show own_Go p e below _ (T_20.setTop (mkF m 59 #[.val (.int p1), .val (.int p2), .val (.long q3), .second, .val (.int p4), .val (.int p5), .val (.int p6), .val (.int (p1 &&& (3 : Int32))), .val (.ref b_1), .unset, .unset, .unset, .unset, .unset, .unset, .unset] [(.int (5 : Int32)), (.ref b_1)]))
  refine own_via (fun _ => XS.lloadN X_20.here hx rfl (hb hby at_59) rfl) ?_
  show own_Go p e below _ (T_20.setTop (mkF m 60 #[.val (.int p1), .val (.int p2), .val (.long q3), .second, .val (.int p4), .val (.int p5), .val (.int p6), .val (.int (p1 &&& (3 : Int32))), .val (.ref b_1), .unset, .unset, .unset, .unset, .unset, .unset, .unset] [(.long q3), (.int (5 : Int32)), (.ref b_1)]))
  refine own_via (fun _ => XS.iconst X_20.here hx rfl (hb hby at_60)) ?_
  show own_Go p e below _ (T_20.setTop (mkF m 61 #[.val (.int p1), .val (.int p2), .val (.long q3), .second, .val (.int p4), .val (.int p5), .val (.int p6), .val (.int (p1 &&& (3 : Int32))), .val (.ref b_1), .unset, .unset, .unset, .unset, .unset, .unset, .unset] [(.int (5 : Int32)), (.long q3), (.int (5 : Int32)), (.ref b_1)]))
  have K_22 : Keep h0 h_20 [] := Keep.wr (ws := []) K_18 W_20 (Or.inr (Nat.le_of_eq g_1.symm))
  obtain ⟨_, _, ⟨T_23, L_23, k_23, n_23⟩, -, X_23, ⟨Lc_23, hQ_23, l_23, y_23, z_23⟩, st_23⟩ := Jvm.LawKit.callS X_20 hx (y := (⟨"com/example/cascadilla/cascadilla/language/TypeIsClassPinLaw", "drawn", "(JI)C"⟩ : MethodName)) hown (mvT hZ (own_w hw 1 rfl)) (mvT hZ (own_w hw 2 rfl)) (mvT hZ (own_w hw 3 rfl)) (mvT hZ (own_w hw 4 rfl)) (by decide) (backOf (W := 2) (rmdrawn l Z a0 hw [] q3 (5 : Int32) h_20 n0 (Nat.le_trans Z0 K_22.1) ) hZ (own_w hw 4 rfl) (own_w hw 3 rfl) (by decide) (by decide)) (g := (mkF m 61 #[.val (.int p1), .val (.int p2), .val (.long q3), .second, .val (.int p4), .val (.int p5), .val (.int p6), .val (.int (p1 &&& (3 : Int32))), .val (.ref b_1), .unset, .unset, .unset, .unset, .unset, .unset, .unset] [(.int (5 : Int32)), (.long q3), (.int (5 : Int32)), (.ref b_1)])) rfl (by rw [hml]; rfl) (argsL := [(.long q3), (.int (5 : Int32))]) (rest := [(.int (5 : Int32)), (.ref b_1)]) (lenOf pd_5 rfl) rfl (by show 2 * 0 + _ ≤ _; exact Nat.le_of_eq rfl) (hb hby at_61) (fun _ _ => ⟨rfl, e_20, (by decide : 1 + 0 ≤ _), (by decide : 7 + 0 ≤ _)⟩)
  dsimp only [Pt.U, Pt.locs, Pt.cells, Pt.slots] at X_23 l_23 y_23 z_23 st_23 hQ_23
  subst l_23 y_23 z_23
  obtain ⟨c5, rfl, Nq_23, e_23, q_23_0⟩ := hQ_23
  have N_23 := Fr.app N_20 Nq_23
  refine own_via st_23 ?_
  show own_Go p e below _ (T_23.setTop (mkF m 64 #[.val (.int p1), .val (.int p2), .val (.long q3), .second, .val (.int p4), .val (.int p5), .val (.int p6), .val (.int (p1 &&& (3 : Int32))), .val (.ref b_1), .unset, .unset, .unset, .unset, .unset, .unset, .unset] [(.int c5), (.int (5 : Int32)), (.ref b_1)]))
  obtain ⟨cl_24, Ar_24, q_24, S_24, M_24, H_24, G_24⟩ := (id V_21)
  obtain ⟨T_24, h_24, X_24, e_24, W_24, st_24⟩ := stC X_23 hx hZ e_23 Ar_24 (j := (5 : Int32)) (inb_of S_24 ⟨by decide, by decide⟩) (g := (mkF m 64 #[.val (.int p1), .val (.int p2), .val (.long q3), .second, .val (.int p4), .val (.int p5), .val (.int p6), .val (.int (p1 &&& (3 : Int32))), .val (.ref b_1), .unset, .unset, .unset, .unset, .unset, .unset, .unset] [(.int c5), (.int (5 : Int32)), (.ref b_1)])) rfl rfl (hb hby at_64)
  have V_24 : Arv Z h_24 b_1 k_1 .char (7 : Int32) [(.int c0), (.int c1), (.int c2), (.int c3), (.int c4), (.int (nar .char c5)), (.int (0 : Int32))] (.int (0 : Int32)) := Arv.set Ar_24 q_24 S_24 M_24 H_24 G_24 (fits_nar_char _) W_24 5 rfl (Nat.le_of_ble_eq_true rfl)
  have N_24 := Fr.snoc X_24 N_23 (Nat.le_trans Z0 (Nat.le_of_eq g_1.symm))
  refine own_via st_24 ?_
  show own_Go p e below _ (T_24.setTop (mkF m 65 #[.val (.int p1), .val (.int p2), .val (.long q3), .second, .val (.int p4), .val (.int p5), .val (.int p6), .val (.int (p1 &&& (3 : Int32))), .val (.ref b_1), .unset, .unset, .unset, .unset, .unset, .unset, .unset] []))
  have V_25 : Arv Z h_24 b_1 k_1 .char (7 : Int32) [(.int c0), (.int c1), (.int c2), (.int c3), (.int c4), (.int c5), (.int (0 : Int32))] (.int (0 : Int32)) := by have q := V_24; rwa [own_nar q_23_0] at q
  refine own_via (fun _ => XS.aload X_24.here hx rfl (hb hby at_65) rfl rfl) ?_
  show own_Go p e below _ (T_24.setTop (mkF m 67 #[.val (.int p1), .val (.int p2), .val (.long q3), .second, .val (.int p4), .val (.int p5), .val (.int p6), .val (.int (p1 &&& (3 : Int32))), .val (.ref b_1), .unset, .unset, .unset, .unset, .unset, .unset, .unset] [(.ref b_1)]))
  refine own_via (fun _ => XS.bipush X_24.here hx rfl (hb hby at_67)) ?_
  show own_Go p e below _ (T_24.setTop (mkF m 69 #[.val (.int p1), .val (.int p2), .val (.long q3), .second, .val (.int p4), .val (.int p5), .val (.int p6), .val (.int (p1 &&& (3 : Int32))), .val (.ref b_1), .unset, .unset, .unset, .unset, .unset, .unset, .unset] [(.int (6 : Int32)), (.ref b_1)]))
  refine own_via (fun _ => XS.lloadN X_24.here hx rfl (hb hby at_69) rfl) ?_
  show own_Go p e below _ (T_24.setTop (mkF m 70 #[.val (.int p1), .val (.int p2), .val (.long q3), .second, .val (.int p4), .val (.int p5), .val (.int p6), .val (.int (p1 &&& (3 : Int32))), .val (.ref b_1), .unset, .unset, .unset, .unset, .unset, .unset, .unset] [(.long q3), (.int (6 : Int32)), (.ref b_1)]))
  refine own_via (fun _ => XS.bipush X_24.here hx rfl (hb hby at_70)) ?_
  show own_Go p e below _ (T_24.setTop (mkF m 72 #[.val (.int p1), .val (.int p2), .val (.long q3), .second, .val (.int p4), .val (.int p5), .val (.int p6), .val (.int (p1 &&& (3 : Int32))), .val (.ref b_1), .unset, .unset, .unset, .unset, .unset, .unset, .unset] [(.int (6 : Int32)), (.long q3), (.int (6 : Int32)), (.ref b_1)]))
  have K_26 : Keep h0 h_24 [] := Keep.wr (ws := []) K_22 W_24 (Or.inr (Nat.le_of_eq g_1.symm))
  obtain ⟨_, _, ⟨T_27, L_27, k_27, n_27⟩, -, X_27, ⟨Lc_27, hQ_27, l_27, y_27, z_27⟩, st_27⟩ := Jvm.LawKit.callS X_24 hx (y := (⟨"com/example/cascadilla/cascadilla/language/TypeIsClassPinLaw", "drawn", "(JI)C"⟩ : MethodName)) hown (mvT hZ (own_w hw 1 rfl)) (mvT hZ (own_w hw 2 rfl)) (mvT hZ (own_w hw 3 rfl)) (mvT hZ (own_w hw 4 rfl)) (by decide) (backOf (W := 2) (rmdrawn l Z a0 hw [] q3 (6 : Int32) h_24 n0 (Nat.le_trans Z0 K_26.1) ) hZ (own_w hw 4 rfl) (own_w hw 3 rfl) (by decide) (by decide)) (g := (mkF m 72 #[.val (.int p1), .val (.int p2), .val (.long q3), .second, .val (.int p4), .val (.int p5), .val (.int p6), .val (.int (p1 &&& (3 : Int32))), .val (.ref b_1), .unset, .unset, .unset, .unset, .unset, .unset, .unset] [(.int (6 : Int32)), (.long q3), (.int (6 : Int32)), (.ref b_1)])) rfl (by rw [hml]; rfl) (argsL := [(.long q3), (.int (6 : Int32))]) (rest := [(.int (6 : Int32)), (.ref b_1)]) (lenOf pd_5 rfl) rfl (by show 2 * 0 + _ ≤ _; exact Nat.le_of_eq rfl) (hb hby at_72) (fun _ _ => ⟨rfl, e_24, (by decide : 1 + 0 ≤ _), (by decide : 7 + 0 ≤ _)⟩)
  dsimp only [Pt.U, Pt.locs, Pt.cells, Pt.slots] at X_27 l_27 y_27 z_27 st_27 hQ_27
  subst l_27 y_27 z_27
  obtain ⟨c6, rfl, Nq_27, e_27, q_27_0⟩ := hQ_27
  have N_27 := Fr.app N_24 Nq_27
  refine own_via st_27 ?_
  show own_Go p e below _ (T_27.setTop (mkF m 75 #[.val (.int p1), .val (.int p2), .val (.long q3), .second, .val (.int p4), .val (.int p5), .val (.int p6), .val (.int (p1 &&& (3 : Int32))), .val (.ref b_1), .unset, .unset, .unset, .unset, .unset, .unset, .unset] [(.int c6), (.int (6 : Int32)), (.ref b_1)]))
  obtain ⟨cl_28, Ar_28, q_28, S_28, M_28, H_28, G_28⟩ := (id V_25)
  obtain ⟨T_28, h_28, X_28, e_28, W_28, st_28⟩ := stC X_27 hx hZ e_27 Ar_28 (j := (6 : Int32)) (inb_of S_28 ⟨by decide, by decide⟩) (g := (mkF m 75 #[.val (.int p1), .val (.int p2), .val (.long q3), .second, .val (.int p4), .val (.int p5), .val (.int p6), .val (.int (p1 &&& (3 : Int32))), .val (.ref b_1), .unset, .unset, .unset, .unset, .unset, .unset, .unset] [(.int c6), (.int (6 : Int32)), (.ref b_1)])) rfl rfl (hb hby at_75)
  have V_28 : Arv Z h_28 b_1 k_1 .char (7 : Int32) [(.int c0), (.int c1), (.int c2), (.int c3), (.int c4), (.int c5), (.int (nar .char c6))] (.int (0 : Int32)) := Arv.set Ar_28 q_28 S_28 M_28 H_28 G_28 (fits_nar_char _) W_28 6 rfl (Nat.le_of_ble_eq_true rfl)
  have N_28 := Fr.snoc X_28 N_27 (Nat.le_trans Z0 (Nat.le_of_eq g_1.symm))
  refine own_via st_28 ?_
  show own_Go p e below _ (T_28.setTop (mkF m 76 #[.val (.int p1), .val (.int p2), .val (.long q3), .second, .val (.int p4), .val (.int p5), .val (.int p6), .val (.int (p1 &&& (3 : Int32))), .val (.ref b_1), .unset, .unset, .unset, .unset, .unset, .unset, .unset] []))
  have V_29 : Arv Z h_28 b_1 k_1 .char (7 : Int32) [(.int c0), (.int c1), (.int c2), (.int c3), (.int c4), (.int c5), (.int c6)] (.int (0 : Int32)) := by have q := V_28; rwa [own_nar q_27_0] at q
  refine own_via (fun _ => XS.iload X_28.here hx rfl (hb hby at_76) rfl) ?_
  show own_Go p e below _ (T_28.setTop (mkF m 78 #[.val (.int p1), .val (.int p2), .val (.long q3), .second, .val (.int p4), .val (.int p5), .val (.int p6), .val (.int (p1 &&& (3 : Int32))), .val (.ref b_1), .unset, .unset, .unset, .unset, .unset, .unset, .unset] [(.int (p1 &&& (3 : Int32)))]))
  have kj_30 : ∀ (T_31 : State) (L_32 : List Loc) (b0 : Int32) (hb0 : ¬ b0 < 0 ∧ ¬ (255 : Int32) < b0) (b1 : Int32) (hb1 : ¬ b1 < 0 ∧ ¬ (255 : Int32) < b1) (b2 : Int32) (hb2 : ¬ b2 < 0 ∧ ¬ (255 : Int32) < b2) (b3 : Int32) (hb3 : ¬ b3 < 0 ∧ ¬ (255 : Int32) < b3) (b4 : Int32) (hb4 : ¬ b4 < 0 ∧ ¬ (255 : Int32) < b4) (b5 : Int32) (hb5 : ¬ b5 < 0 ∧ ¬ (255 : Int32) < b5) (b6 : Int32) (hb6 : ¬ b6 < 0 ∧ ¬ (255 : Int32) < b6) (X_34 : Stand p l e room_1 (s.setVm s.vm) m #[(.int p1), (.int p2), (.long q3), (.int p4), (.int p5), (.int p6)] below meth c T_31 L_32 1 7) (h_33 : Heap) (e_34 : T_31.heap = h_33) (K_34 : Keep h_28 h_33 [b_1]) (VB : Arv Z h_33 b_1 k_1 .char (7 : Int32) [(.int b0), (.int b1), (.int b2), (.int b3), (.int b4), (.int b5), (.int b6)] (.int (0 : Int32))) (N_34 : Fr n0 L_32), own_Go p e below (fun o U' => ∃ v L, o = .returned v ∧ Q0 Z p1 p2 q3 p4 p5 p6 cs h0 n0 v U'.heap L U'.vm ∧ ReturnedEndW s o U' L room_1.cells room_1.slots) (T_31.setTop (mkF m 151 #[.val (.int p1), .val (.int p2), .val (.long q3), .second, .val (.int p4), .val (.int p5), .val (.int p6), .val (.int (p1 &&& (3 : Int32))), .val (.ref b_1), .unset, .unset, .unset, .unset, .unset, .unset, .unset] [])) := by
    intro T_31 L_32 b0 hb0 b1 hb1 b2 hb2 b3 hb3 b4 hb4 b5 hb5 b6 hb6 X_34 h_33 e_34 K_34 VB N_34
    refine own_via (fun _ => XS.iloadN X_34.here hx rfl (hb hby at_151) rfl) ?_
    show own_Go p e below _ (T_31.setTop (mkF m 152 #[.val (.int p1), .val (.int p2), .val (.long q3), .second, .val (.int p4), .val (.int p5), .val (.int p6), .val (.int (p1 &&& (3 : Int32))), .val (.ref b_1), .unset, .unset, .unset, .unset, .unset, .unset, .unset] [(.int p1)]))
    refine own_via (fun _ => XS.iconst X_34.here hx rfl (hb hby at_152)) ?_
    show own_Go p e below _ (T_31.setTop (mkF m 153 #[.val (.int p1), .val (.int p2), .val (.long q3), .second, .val (.int p4), .val (.int p5), .val (.int p6), .val (.int (p1 &&& (3 : Int32))), .val (.ref b_1), .unset, .unset, .unset, .unset, .unset, .unset, .unset] [(.int (3 : Int32)), (.int p1)]))
    refine own_via (fun _ => XS.iushr X_34.here hx rfl (hb hby at_153) rfl) ?_
    show own_Go p e below _ (T_31.setTop (mkF m 154 #[.val (.int p1), .val (.int p2), .val (.long q3), .second, .val (.int p4), .val (.int p5), .val (.int p6), .val (.int (p1 &&& (3 : Int32))), .val (.ref b_1), .unset, .unset, .unset, .unset, .unset, .unset, .unset] [(.int ((p1.toUInt32 >>> ((3 : Int32) &&& 31).toUInt32).toInt32))]))
    refine own_via (fun _ => XS.iconst X_34.here hx rfl (hb hby at_154)) ?_
    show own_Go p e below _ (T_31.setTop (mkF m 155 #[.val (.int p1), .val (.int p2), .val (.long q3), .second, .val (.int p4), .val (.int p5), .val (.int p6), .val (.int (p1 &&& (3 : Int32))), .val (.ref b_1), .unset, .unset, .unset, .unset, .unset, .unset, .unset] [(.int (1 : Int32)), (.int ((p1.toUInt32 >>> ((3 : Int32) &&& 31).toUInt32).toInt32))]))
    refine own_via (fun _ => XS.iand X_34.here hx rfl (hb hby at_155) rfl) ?_
    show own_Go p e below _ (T_31.setTop (mkF m 156 #[.val (.int p1), .val (.int p2), .val (.long q3), .second, .val (.int p4), .val (.int p5), .val (.int p6), .val (.int (p1 &&& (3 : Int32))), .val (.ref b_1), .unset, .unset, .unset, .unset, .unset, .unset, .unset] [(.int (((p1.toUInt32 >>> ((3 : Int32) &&& 31).toUInt32).toInt32) &&& (1 : Int32)))]))
    have kj_35 : ∀ (T_36 : State) (L_37 : List Loc) (e0 : Int32) (he0 : ¬ e0 < 0 ∧ ¬ (255 : Int32) < e0) (e1 : Int32) (he1 : ¬ e1 < 0 ∧ ¬ (255 : Int32) < e1) (e2 : Int32) (he2 : ¬ e2 < 0 ∧ ¬ (255 : Int32) < e2) (e3 : Int32) (he3 : ¬ e3 < 0 ∧ ¬ (255 : Int32) < e3) (e4 : Int32) (he4 : ¬ e4 < 0 ∧ ¬ (255 : Int32) < e4) (e5 : Int32) (he5 : ¬ e5 < 0 ∧ ¬ (255 : Int32) < e5) (e6 : Int32) (he6 : ¬ e6 < 0 ∧ ¬ (255 : Int32) < e6) (sl9 : Slot) (hsl9 : One sl9) (X_39 : Stand p l e room_1 (s.setVm s.vm) m #[(.int p1), (.int p2), (.long q3), (.int p4), (.int p5), (.int p6)] below meth c T_36 L_37 1 7) (h_38 : Heap) (e_39 : T_36.heap = h_38) (K_39 : Keep h_33 h_38 [b_1]) (VE : Arv Z h_38 b_1 k_1 .char (7 : Int32) [(.int e0), (.int e1), (.int e2), (.int e3), (.int e4), (.int e5), (.int e6)] (.int (0 : Int32))) (N_39 : Fr n0 L_37), own_Go p e below (fun o U' => ∃ v L, o = .returned v ∧ Q0 Z p1 p2 q3 p4 p5 p6 cs h0 n0 v U'.heap L U'.vm ∧ ReturnedEndW s o U' L room_1.cells room_1.slots) (T_36.setTop (mkF m 181 #[.val (.int p1), .val (.int p2), .val (.long q3), .second, .val (.int p4), .val (.int p5), .val (.int p6), .val (.int (p1 &&& (3 : Int32))), .val (.ref b_1), sl9, .unset, .unset, .unset, .unset, .unset, .unset] [])) := by
      intro T_36 L_37 e0 he0 e1 he1 e2 he2 e3 he3 e4 he4 e5 he5 e6 he6 sl9 hsl9 X_39 h_38 e_39 K_39 VE N_39
      refine own_via (fun _ => XS.iloadN X_39.here hx rfl (hb hby at_181) rfl) ?_
      show own_Go p e below _ (T_36.setTop (mkF m 182 #[.val (.int p1), .val (.int p2), .val (.long q3), .second, .val (.int p4), .val (.int p5), .val (.int p6), .val (.int (p1 &&& (3 : Int32))), .val (.ref b_1), sl9, .unset, .unset, .unset, .unset, .unset, .unset] [(.int p1)]))
      refine own_via (fun _ => XS.iconst X_39.here hx rfl (hb hby at_182)) ?_
      show own_Go p e below _ (T_36.setTop (mkF m 183 #[.val (.int p1), .val (.int p2), .val (.long q3), .second, .val (.int p4), .val (.int p5), .val (.int p6), .val (.int (p1 &&& (3 : Int32))), .val (.ref b_1), sl9, .unset, .unset, .unset, .unset, .unset, .unset] [(.int (2 : Int32)), (.int p1)]))
      refine own_via (fun _ => XS.iushr X_39.here hx rfl (hb hby at_183) rfl) ?_
      show own_Go p e below _ (T_36.setTop (mkF m 184 #[.val (.int p1), .val (.int p2), .val (.long q3), .second, .val (.int p4), .val (.int p5), .val (.int p6), .val (.int (p1 &&& (3 : Int32))), .val (.ref b_1), sl9, .unset, .unset, .unset, .unset, .unset, .unset] [(.int ((p1.toUInt32 >>> ((2 : Int32) &&& 31).toUInt32).toInt32))]))
      refine own_via (fun _ => XS.iconst X_39.here hx rfl (hb hby at_184)) ?_
      show own_Go p e below _ (T_36.setTop (mkF m 185 #[.val (.int p1), .val (.int p2), .val (.long q3), .second, .val (.int p4), .val (.int p5), .val (.int p6), .val (.int (p1 &&& (3 : Int32))), .val (.ref b_1), sl9, .unset, .unset, .unset, .unset, .unset, .unset] [(.int (1 : Int32)), (.int ((p1.toUInt32 >>> ((2 : Int32) &&& 31).toUInt32).toInt32))]))
      refine own_via (fun _ => XS.iand X_39.here hx rfl (hb hby at_185) rfl) ?_
      show own_Go p e below _ (T_36.setTop (mkF m 186 #[.val (.int p1), .val (.int p2), .val (.long q3), .second, .val (.int p4), .val (.int p5), .val (.int p6), .val (.int (p1 &&& (3 : Int32))), .val (.ref b_1), sl9, .unset, .unset, .unset, .unset, .unset, .unset] [(.int (((p1.toUInt32 >>> ((2 : Int32) &&& 31).toUInt32).toInt32) &&& (1 : Int32)))]))
      obtain ⟨zl, ezl⟩ : ∃ z : Int32, z = (if (((p1.toUInt32 >>> ((2 : Int32) &&& 31).toUInt32).toInt32) &&& (1 : Int32)) = (0 : Int32) then (p2 &&& (7 : Int32)) else (if (p1 &&& (3 : Int32)) = (0 : Int32) then (3 : Int32) else (if (p1 &&& (3 : Int32)) = (1 : Int32) then (7 : Int32) else (p2 &&& (7 : Int32))))) := ⟨_, rfl⟩
      refine own_seq (B := T_36.setTop (mkF m 228 #[.val (.int p1), .val (.int p2), .val (.long q3), .second, .val (.int p4), .val (.int p5), .val (.int p6), .val (.int (p1 &&& (3 : Int32))), .val (.ref b_1), .val (.int zl), .unset, .unset, .unset, .unset, .unset, .unset] [])) (fun kz => ?_) ?_
      · by_cases hv_40 : (((p1.toUInt32 >>> ((2 : Int32) &&& 31).toUInt32).toInt32) &&& (1 : Int32)) = (0 : Int32)
        · refine own_via (fun _ => XS.ifYes X_39.here hx rfl (pc0 := 186) (pc' := 222) rfl (hb hby at_186) rfl ((if0 _ _).trans (teq (hv_40 : (((p1.toUInt32 >>> ((2 : Int32) &&& 31).toUInt32).toInt32) &&& (1 : Int32)) = (0 : Int32))).1) (by decide) (by decide)) ?_
          show own_Go p e below _ (T_36.setTop (mkF m 222 #[.val (.int p1), .val (.int p2), .val (.long q3), .second, .val (.int p4), .val (.int p5), .val (.int p6), .val (.int (p1 &&& (3 : Int32))), .val (.ref b_1), sl9, .unset, .unset, .unset, .unset, .unset, .unset] []))
          refine own_via (fun _ => XS.iloadN X_39.here hx rfl (hb hby at_222) rfl) ?_
          show own_Go p e below _ (T_36.setTop (mkF m 223 #[.val (.int p1), .val (.int p2), .val (.long q3), .second, .val (.int p4), .val (.int p5), .val (.int p6), .val (.int (p1 &&& (3 : Int32))), .val (.ref b_1), sl9, .unset, .unset, .unset, .unset, .unset, .unset] [(.int p2)]))
          refine own_via (fun _ => XS.bipush X_39.here hx rfl (hb hby at_223)) ?_
          show own_Go p e below _ (T_36.setTop (mkF m 225 #[.val (.int p1), .val (.int p2), .val (.long q3), .second, .val (.int p4), .val (.int p5), .val (.int p6), .val (.int (p1 &&& (3 : Int32))), .val (.ref b_1), sl9, .unset, .unset, .unset, .unset, .unset, .unset] [(.int (7 : Int32)), (.int p2)]))
          refine own_via (fun _ => XS.iand X_39.here hx rfl (hb hby at_225) rfl) ?_
          show own_Go p e below _ (T_36.setTop (mkF m 226 #[.val (.int p1), .val (.int p2), .val (.long q3), .second, .val (.int p4), .val (.int p5), .val (.int p6), .val (.int (p1 &&& (3 : Int32))), .val (.ref b_1), sl9, .unset, .unset, .unset, .unset, .unset, .unset] [(.int (p2 &&& (7 : Int32)))]))
          refine own_via (fun _ => XS.istoreS X_39.here hx rfl (hb hby at_226) rfl rfl hsl9) ?_
          show own_Go p e below _ (T_36.setTop (mkF m 228 #[.val (.int p1), .val (.int p2), .val (.long q3), .second, .val (.int p4), .val (.int p5), .val (.int p6), .val (.int (p1 &&& (3 : Int32))), .val (.ref b_1), .val (.int (p2 &&& (7 : Int32))), .unset, .unset, .unset, .unset, .unset, .unset] []))
          rw [if_pos hv_40] at ezl
          subst ezl
          exact kz
        · refine own_via (fun _ => XS.ifNo X_39.here hx rfl (hb hby at_186) rfl ((if0 _ _).trans (feq (hv_40 : ¬ ((((p1.toUInt32 >>> ((2 : Int32) &&& 31).toUInt32).toInt32) &&& (1 : Int32)) = (0 : Int32)))).1)) ?_
          show own_Go p e below _ (T_36.setTop (mkF m 189 #[.val (.int p1), .val (.int p2), .val (.long q3), .second, .val (.int p4), .val (.int p5), .val (.int p6), .val (.int (p1 &&& (3 : Int32))), .val (.ref b_1), sl9, .unset, .unset, .unset, .unset, .unset, .unset] []))
          refine own_via (fun _ => XS.iload X_39.here hx rfl (hb hby at_189) rfl) ?_
          show own_Go p e below _ (T_36.setTop (mkF m 191 #[.val (.int p1), .val (.int p2), .val (.long q3), .second, .val (.int p4), .val (.int p5), .val (.int p6), .val (.int (p1 &&& (3 : Int32))), .val (.ref b_1), sl9, .unset, .unset, .unset, .unset, .unset, .unset] [(.int (p1 &&& (3 : Int32)))]))
          by_cases hv_41 : (p1 &&& (3 : Int32)) = (0 : Int32)
          · refine own_via (fun _ => XS.ifNo X_39.here hx rfl (hb hby at_191) rfl ((if0 _ _).trans (teq (hv_41 : (p1 &&& (3 : Int32)) = (0 : Int32))).2)) ?_
            show own_Go p e below _ (T_36.setTop (mkF m 194 #[.val (.int p1), .val (.int p2), .val (.long q3), .second, .val (.int p4), .val (.int p5), .val (.int p6), .val (.int (p1 &&& (3 : Int32))), .val (.ref b_1), sl9, .unset, .unset, .unset, .unset, .unset, .unset] []))
            refine own_via (fun _ => XS.iconst X_39.here hx rfl (hb hby at_194)) ?_
            show own_Go p e below _ (T_36.setTop (mkF m 195 #[.val (.int p1), .val (.int p2), .val (.long q3), .second, .val (.int p4), .val (.int p5), .val (.int p6), .val (.int (p1 &&& (3 : Int32))), .val (.ref b_1), sl9, .unset, .unset, .unset, .unset, .unset, .unset] [(.int (3 : Int32))]))
            refine own_via (fun _ => XS.istoreS X_39.here hx rfl (hb hby at_195) rfl rfl hsl9) ?_
            show own_Go p e below _ (T_36.setTop (mkF m 197 #[.val (.int p1), .val (.int p2), .val (.long q3), .second, .val (.int p4), .val (.int p5), .val (.int p6), .val (.int (p1 &&& (3 : Int32))), .val (.ref b_1), .val (.int (3 : Int32)), .unset, .unset, .unset, .unset, .unset, .unset] []))
            refine own_via (fun _ => XS.goto X_39.here hx rfl (pc0 := 197) (pc' := 228) rfl (hb hby at_197) (by decide) (by decide)) ?_
            show own_Go p e below _ (T_36.setTop (mkF m 228 #[.val (.int p1), .val (.int p2), .val (.long q3), .second, .val (.int p4), .val (.int p5), .val (.int p6), .val (.int (p1 &&& (3 : Int32))), .val (.ref b_1), .val (.int (3 : Int32)), .unset, .unset, .unset, .unset, .unset, .unset] []))
            rw [if_neg hv_40] at ezl
            rw [if_pos hv_41] at ezl
            subst ezl
            exact kz
          · refine own_via (fun _ => XS.ifYes X_39.here hx rfl (pc0 := 191) (pc' := 200) rfl (hb hby at_191) rfl ((if0 _ _).trans (feq (hv_41 : ¬ ((p1 &&& (3 : Int32)) = (0 : Int32)))).2) (by decide) (by decide)) ?_
            show own_Go p e below _ (T_36.setTop (mkF m 200 #[.val (.int p1), .val (.int p2), .val (.long q3), .second, .val (.int p4), .val (.int p5), .val (.int p6), .val (.int (p1 &&& (3 : Int32))), .val (.ref b_1), sl9, .unset, .unset, .unset, .unset, .unset, .unset] []))
            refine own_via (fun _ => XS.iload X_39.here hx rfl (hb hby at_200) rfl) ?_
            show own_Go p e below _ (T_36.setTop (mkF m 202 #[.val (.int p1), .val (.int p2), .val (.long q3), .second, .val (.int p4), .val (.int p5), .val (.int p6), .val (.int (p1 &&& (3 : Int32))), .val (.ref b_1), sl9, .unset, .unset, .unset, .unset, .unset, .unset] [(.int (p1 &&& (3 : Int32)))]))
            refine own_via (fun _ => XS.iconst X_39.here hx rfl (hb hby at_202)) ?_
            show own_Go p e below _ (T_36.setTop (mkF m 203 #[.val (.int p1), .val (.int p2), .val (.long q3), .second, .val (.int p4), .val (.int p5), .val (.int p6), .val (.int (p1 &&& (3 : Int32))), .val (.ref b_1), sl9, .unset, .unset, .unset, .unset, .unset, .unset] [(.int (1 : Int32)), (.int (p1 &&& (3 : Int32)))]))
            by_cases hv_42 : (p1 &&& (3 : Int32)) = (1 : Int32)
            · refine own_via (fun _ => XS.icmpNo X_39.here hx rfl (hb hby at_203) rfl (teq (hv_42 : (p1 &&& (3 : Int32)) = (1 : Int32))).2) ?_
              show own_Go p e below _ (T_36.setTop (mkF m 206 #[.val (.int p1), .val (.int p2), .val (.long q3), .second, .val (.int p4), .val (.int p5), .val (.int p6), .val (.int (p1 &&& (3 : Int32))), .val (.ref b_1), sl9, .unset, .unset, .unset, .unset, .unset, .unset] []))
              refine own_via (fun _ => XS.bipush X_39.here hx rfl (hb hby at_206)) ?_
              show own_Go p e below _ (T_36.setTop (mkF m 208 #[.val (.int p1), .val (.int p2), .val (.long q3), .second, .val (.int p4), .val (.int p5), .val (.int p6), .val (.int (p1 &&& (3 : Int32))), .val (.ref b_1), sl9, .unset, .unset, .unset, .unset, .unset, .unset] [(.int (7 : Int32))]))
              refine own_via (fun _ => XS.istoreS X_39.here hx rfl (hb hby at_208) rfl rfl hsl9) ?_
              show own_Go p e below _ (T_36.setTop (mkF m 210 #[.val (.int p1), .val (.int p2), .val (.long q3), .second, .val (.int p4), .val (.int p5), .val (.int p6), .val (.int (p1 &&& (3 : Int32))), .val (.ref b_1), .val (.int (7 : Int32)), .unset, .unset, .unset, .unset, .unset, .unset] []))
              refine own_via (fun _ => XS.goto X_39.here hx rfl (pc0 := 210) (pc' := 228) rfl (hb hby at_210) (by decide) (by decide)) ?_
              show own_Go p e below _ (T_36.setTop (mkF m 228 #[.val (.int p1), .val (.int p2), .val (.long q3), .second, .val (.int p4), .val (.int p5), .val (.int p6), .val (.int (p1 &&& (3 : Int32))), .val (.ref b_1), .val (.int (7 : Int32)), .unset, .unset, .unset, .unset, .unset, .unset] []))
              rw [if_neg hv_40] at ezl
              rw [if_neg hv_41] at ezl
              rw [if_pos hv_42] at ezl
              subst ezl
              exact kz
            · refine own_via (fun _ => XS.icmpYes X_39.here hx rfl (pc0 := 203) (pc' := 213) rfl (hb hby at_203) rfl (feq (hv_42 : ¬ ((p1 &&& (3 : Int32)) = (1 : Int32)))).2 (by decide) (by decide)) ?_
              show own_Go p e below _ (T_36.setTop (mkF m 213 #[.val (.int p1), .val (.int p2), .val (.long q3), .second, .val (.int p4), .val (.int p5), .val (.int p6), .val (.int (p1 &&& (3 : Int32))), .val (.ref b_1), sl9, .unset, .unset, .unset, .unset, .unset, .unset] []))
              refine own_via (fun _ => XS.iloadN X_39.here hx rfl (hb hby at_213) rfl) ?_
              show own_Go p e below _ (T_36.setTop (mkF m 214 #[.val (.int p1), .val (.int p2), .val (.long q3), .second, .val (.int p4), .val (.int p5), .val (.int p6), .val (.int (p1 &&& (3 : Int32))), .val (.ref b_1), sl9, .unset, .unset, .unset, .unset, .unset, .unset] [(.int p2)]))
              refine own_via (fun _ => XS.bipush X_39.here hx rfl (hb hby at_214)) ?_
              show own_Go p e below _ (T_36.setTop (mkF m 216 #[.val (.int p1), .val (.int p2), .val (.long q3), .second, .val (.int p4), .val (.int p5), .val (.int p6), .val (.int (p1 &&& (3 : Int32))), .val (.ref b_1), sl9, .unset, .unset, .unset, .unset, .unset, .unset] [(.int (7 : Int32)), (.int p2)]))
              refine own_via (fun _ => XS.iand X_39.here hx rfl (hb hby at_216) rfl) ?_
              show own_Go p e below _ (T_36.setTop (mkF m 217 #[.val (.int p1), .val (.int p2), .val (.long q3), .second, .val (.int p4), .val (.int p5), .val (.int p6), .val (.int (p1 &&& (3 : Int32))), .val (.ref b_1), sl9, .unset, .unset, .unset, .unset, .unset, .unset] [(.int (p2 &&& (7 : Int32)))]))
              refine own_via (fun _ => XS.istoreS X_39.here hx rfl (hb hby at_217) rfl rfl hsl9) ?_
              show own_Go p e below _ (T_36.setTop (mkF m 219 #[.val (.int p1), .val (.int p2), .val (.long q3), .second, .val (.int p4), .val (.int p5), .val (.int p6), .val (.int (p1 &&& (3 : Int32))), .val (.ref b_1), .val (.int (p2 &&& (7 : Int32))), .unset, .unset, .unset, .unset, .unset, .unset] []))
              refine own_via (fun _ => XS.goto X_39.here hx rfl (pc0 := 219) (pc' := 228) rfl (hb hby at_219) (by decide) (by decide)) ?_
              show own_Go p e below _ (T_36.setTop (mkF m 228 #[.val (.int p1), .val (.int p2), .val (.long q3), .second, .val (.int p4), .val (.int p5), .val (.int p6), .val (.int (p1 &&& (3 : Int32))), .val (.ref b_1), .val (.int (p2 &&& (7 : Int32))), .unset, .unset, .unset, .unset, .unset, .unset] []))
              rw [if_neg hv_40] at ezl
              rw [if_neg hv_41] at ezl
              rw [if_neg hv_42] at ezl
              subst ezl
              exact kz
      show own_Go p e below _ (T_36.setTop (mkF m 228 #[.val (.int p1), .val (.int p2), .val (.long q3), .second, .val (.int p4), .val (.int p5), .val (.int p6), .val (.int (p1 &&& (3 : Int32))), .val (.ref b_1), .val (.int zl), .unset, .unset, .unset, .unset, .unset, .unset] []))
      rcases own_len ezl with rfl | rfl | rfl | rfl | rfl | rfl | rfl | rfl
      · show own_Go p e below _ (T_36.setTop (mkF m 228 #[.val (.int p1), .val (.int p2), .val (.long q3), .second, .val (.int p4), .val (.int p5), .val (.int p6), .val (.int (p1 &&& (3 : Int32))), .val (.ref b_1), .val (.int (0 : Int32)), .unset, .unset, .unset, .unset, .unset, .unset] []))
        refine own_via (fun _ => XS.iload X_39.here hx rfl (hb hby at_228) rfl) ?_
        show own_Go p e below _ (T_36.setTop (mkF m 230 #[.val (.int p1), .val (.int p2), .val (.long q3), .second, .val (.int p4), .val (.int p5), .val (.int p6), .val (.int (p1 &&& (3 : Int32))), .val (.ref b_1), .val (.int (0 : Int32)), .unset, .unset, .unset, .unset, .unset, .unset] [(.int (0 : Int32))]))
        refine own_via (fun _ => XS.bipush X_39.here hx rfl (hb hby at_230)) ?_
        show own_Go p e below _ (T_36.setTop (mkF m 232 #[.val (.int p1), .val (.int p2), .val (.long q3), .second, .val (.int p4), .val (.int p5), .val (.int p6), .val (.int (p1 &&& (3 : Int32))), .val (.ref b_1), .val (.int (0 : Int32)), .unset, .unset, .unset, .unset, .unset, .unset] [(.int (7 : Int32)), (.int (0 : Int32))]))
        refine own_via (fun _ => XS.icmpYes X_39.here hx rfl (pc0 := 232) (pc' := 239) rfl (hb hby at_232) rfl (flt ((by decide) : ¬ ((7 : Int32) < (0 : Int32)))).2.2.2 (by decide) (by decide)) ?_
        show own_Go p e below _ (T_36.setTop (mkF m 239 #[.val (.int p1), .val (.int p2), .val (.long q3), .second, .val (.int p4), .val (.int p5), .val (.int p6), .val (.int (p1 &&& (3 : Int32))), .val (.ref b_1), .val (.int (0 : Int32)), .unset, .unset, .unset, .unset, .unset, .unset] []))
        refine own_via (fun _ => XS.iload X_39.here hx rfl (hb hby at_239) rfl) ?_
        show own_Go p e below _ (T_36.setTop (mkF m 241 #[.val (.int p1), .val (.int p2), .val (.long q3), .second, .val (.int p4), .val (.int p5), .val (.int p6), .val (.int (p1 &&& (3 : Int32))), .val (.ref b_1), .val (.int (0 : Int32)), .unset, .unset, .unset, .unset, .unset, .unset] [(.int (0 : Int32))]))
        obtain ⟨T_43, h_43, k_43, X_43, e_43, E_43, A_43, st_43⟩ := newP X_39 hx hZ (own_w hw 0 rfl) e_39 (g := (mkF m 241 #[.val (.int p1), .val (.int p2), .val (.long q3), .second, .val (.int p4), .val (.int p5), .val (.int p6), .val (.int (p1 &&& (3 : Int32))), .val (.ref b_1), .val (.int (0 : Int32)), .unset, .unset, .unset, .unset, .unset, .unset] [(.int (0 : Int32))])) rfl (hb hby at_241) rfl (by decide) (cap := 0) (by decide) (by decide) (by decide) (by decide)
        obtain ⟨b_43, g_43⟩ : ∃ z, z = h_38.size := ⟨_, rfl⟩
        rw [← g_43] at A_43 st_43
        have V_43 : Arv Z h_43 b_43 k_43 .char (0 : Int32) [] (.int (0 : Int32)) := Arv.new A_43 (by decide)
        refine own_via st_43 ?_
        show own_Go p e below _ (T_43.setTop (mkF m 243 #[.val (.int p1), .val (.int p2), .val (.long q3), .second, .val (.int p4), .val (.int p5), .val (.int p6), .val (.int (p1 &&& (3 : Int32))), .val (.ref b_1), .val (.int (0 : Int32)), .unset, .unset, .unset, .unset, .unset, .unset] [(.ref b_43)]))
        refine own_via (fun _ => XS.astore X_43.here hx rfl (hb hby at_243) rfl rfl (l' := #[.val (.int p1), .val (.int p2), .val (.long q3), .second, .val (.int p4), .val (.int p5), .val (.int p6), .val (.int (p1 &&& (3 : Int32))), .val (.ref b_1), .val (.int (0 : Int32)), .val (.ref b_43), .unset, .unset, .unset, .unset, .unset]) rfl) ?_
        show own_Go p e below _ (T_43.setTop (mkF m 245 #[.val (.int p1), .val (.int p2), .val (.long q3), .second, .val (.int p4), .val (.int p5), .val (.int p6), .val (.int (p1 &&& (3 : Int32))), .val (.ref b_1), .val (.int (0 : Int32)), .val (.ref b_43), .unset, .unset, .unset, .unset, .unset] []))
        refine own_via (fun _ => XS.iload X_43.here hx rfl (hb hby at_245) rfl) ?_
        show own_Go p e below _ (T_43.setTop (mkF m 247 #[.val (.int p1), .val (.int p2), .val (.long q3), .second, .val (.int p4), .val (.int p5), .val (.int p6), .val (.int (p1 &&& (3 : Int32))), .val (.ref b_1), .val (.int (0 : Int32)), .val (.ref b_43), .unset, .unset, .unset, .unset, .unset] [(.int (0 : Int32))]))
        refine own_via (fun _ => XS.ifYes X_43.here hx rfl (pc0 := 247) (pc' := 258) rfl (hb hby at_247) rfl ((if0 _ _).trans (flt ((by decide) : ¬ ((0 : Int32) < (0 : Int32)))).2.2.2) (by decide) (by decide)) ?_
        show own_Go p e below _ (T_43.setTop (mkF m 258 #[.val (.int p1), .val (.int p2), .val (.long q3), .second, .val (.int p4), .val (.int p5), .val (.int p6), .val (.int (p1 &&& (3 : Int32))), .val (.ref b_1), .val (.int (0 : Int32)), .val (.ref b_43), .unset, .unset, .unset, .unset, .unset] []))
        refine own_via (fun _ => XS.iload X_43.here hx rfl (hb hby at_258) rfl) ?_
        show own_Go p e below _ (T_43.setTop (mkF m 260 #[.val (.int p1), .val (.int p2), .val (.long q3), .second, .val (.int p4), .val (.int p5), .val (.int p6), .val (.int (p1 &&& (3 : Int32))), .val (.ref b_1), .val (.int (0 : Int32)), .val (.ref b_43), .unset, .unset, .unset, .unset, .unset] [(.int (0 : Int32))]))
        refine own_via (fun _ => XS.iconst X_43.here hx rfl (hb hby at_260)) ?_
        show own_Go p e below _ (T_43.setTop (mkF m 261 #[.val (.int p1), .val (.int p2), .val (.long q3), .second, .val (.int p4), .val (.int p5), .val (.int p6), .val (.int (p1 &&& (3 : Int32))), .val (.ref b_1), .val (.int (0 : Int32)), .val (.ref b_43), .unset, .unset, .unset, .unset, .unset] [(.int (1 : Int32)), (.int (0 : Int32))]))
        refine own_via (fun _ => XS.icmpYes X_43.here hx rfl (pc0 := 261) (pc' := 272) rfl (hb hby at_261) rfl (flt ((by decide) : ¬ ((1 : Int32) < (0 : Int32)))).2.2.2 (by decide) (by decide)) ?_
        show own_Go p e below _ (T_43.setTop (mkF m 272 #[.val (.int p1), .val (.int p2), .val (.long q3), .second, .val (.int p4), .val (.int p5), .val (.int p6), .val (.int (p1 &&& (3 : Int32))), .val (.ref b_1), .val (.int (0 : Int32)), .val (.ref b_43), .unset, .unset, .unset, .unset, .unset] []))
        refine own_via (fun _ => XS.iload X_43.here hx rfl (hb hby at_272) rfl) ?_
        show own_Go p e below _ (T_43.setTop (mkF m 274 #[.val (.int p1), .val (.int p2), .val (.long q3), .second, .val (.int p4), .val (.int p5), .val (.int p6), .val (.int (p1 &&& (3 : Int32))), .val (.ref b_1), .val (.int (0 : Int32)), .val (.ref b_43), .unset, .unset, .unset, .unset, .unset] [(.int (0 : Int32))]))
        refine own_via (fun _ => XS.iconst X_43.here hx rfl (hb hby at_274)) ?_
        show own_Go p e below _ (T_43.setTop (mkF m 275 #[.val (.int p1), .val (.int p2), .val (.long q3), .second, .val (.int p4), .val (.int p5), .val (.int p6), .val (.int (p1 &&& (3 : Int32))), .val (.ref b_1), .val (.int (0 : Int32)), .val (.ref b_43), .unset, .unset, .unset, .unset, .unset] [(.int (2 : Int32)), (.int (0 : Int32))]))
        refine own_via (fun _ => XS.icmpYes X_43.here hx rfl (pc0 := 275) (pc' := 286) rfl (hb hby at_275) rfl (flt ((by decide) : ¬ ((2 : Int32) < (0 : Int32)))).2.2.2 (by decide) (by decide)) ?_
        show own_Go p e below _ (T_43.setTop (mkF m 286 #[.val (.int p1), .val (.int p2), .val (.long q3), .second, .val (.int p4), .val (.int p5), .val (.int p6), .val (.int (p1 &&& (3 : Int32))), .val (.ref b_1), .val (.int (0 : Int32)), .val (.ref b_43), .unset, .unset, .unset, .unset, .unset] []))
        refine own_via (fun _ => XS.iload X_43.here hx rfl (hb hby at_286) rfl) ?_
        show own_Go p e below _ (T_43.setTop (mkF m 288 #[.val (.int p1), .val (.int p2), .val (.long q3), .second, .val (.int p4), .val (.int p5), .val (.int p6), .val (.int (p1 &&& (3 : Int32))), .val (.ref b_1), .val (.int (0 : Int32)), .val (.ref b_43), .unset, .unset, .unset, .unset, .unset] [(.int (0 : Int32))]))
        refine own_via (fun _ => XS.iconst X_43.here hx rfl (hb hby at_288)) ?_
        show own_Go p e below _ (T_43.setTop (mkF m 289 #[.val (.int p1), .val (.int p2), .val (.long q3), .second, .val (.int p4), .val (.int p5), .val (.int p6), .val (.int (p1 &&& (3 : Int32))), .val (.ref b_1), .val (.int (0 : Int32)), .val (.ref b_43), .unset, .unset, .unset, .unset, .unset] [(.int (3 : Int32)), (.int (0 : Int32))]))
        refine own_via (fun _ => XS.icmpYes X_43.here hx rfl (pc0 := 289) (pc' := 300) rfl (hb hby at_289) rfl (flt ((by decide) : ¬ ((3 : Int32) < (0 : Int32)))).2.2.2 (by decide) (by decide)) ?_
        show own_Go p e below _ (T_43.setTop (mkF m 300 #[.val (.int p1), .val (.int p2), .val (.long q3), .second, .val (.int p4), .val (.int p5), .val (.int p6), .val (.int (p1 &&& (3 : Int32))), .val (.ref b_1), .val (.int (0 : Int32)), .val (.ref b_43), .unset, .unset, .unset, .unset, .unset] []))
        refine own_via (fun _ => XS.iload X_43.here hx rfl (hb hby at_300) rfl) ?_
        show own_Go p e below _ (T_43.setTop (mkF m 302 #[.val (.int p1), .val (.int p2), .val (.long q3), .second, .val (.int p4), .val (.int p5), .val (.int p6), .val (.int (p1 &&& (3 : Int32))), .val (.ref b_1), .val (.int (0 : Int32)), .val (.ref b_43), .unset, .unset, .unset, .unset, .unset] [(.int (0 : Int32))]))
        refine own_via (fun _ => XS.iconst X_43.here hx rfl (hb hby at_302)) ?_
        show own_Go p e below _ (T_43.setTop (mkF m 303 #[.val (.int p1), .val (.int p2), .val (.long q3), .second, .val (.int p4), .val (.int p5), .val (.int p6), .val (.int (p1 &&& (3 : Int32))), .val (.ref b_1), .val (.int (0 : Int32)), .val (.ref b_43), .unset, .unset, .unset, .unset, .unset] [(.int (4 : Int32)), (.int (0 : Int32))]))
        refine own_via (fun _ => XS.icmpYes X_43.here hx rfl (pc0 := 303) (pc' := 314) rfl (hb hby at_303) rfl (flt ((by decide) : ¬ ((4 : Int32) < (0 : Int32)))).2.2.2 (by decide) (by decide)) ?_
        show own_Go p e below _ (T_43.setTop (mkF m 314 #[.val (.int p1), .val (.int p2), .val (.long q3), .second, .val (.int p4), .val (.int p5), .val (.int p6), .val (.int (p1 &&& (3 : Int32))), .val (.ref b_1), .val (.int (0 : Int32)), .val (.ref b_43), .unset, .unset, .unset, .unset, .unset] []))
        refine own_via (fun _ => XS.iload X_43.here hx rfl (hb hby at_314) rfl) ?_
        show own_Go p e below _ (T_43.setTop (mkF m 316 #[.val (.int p1), .val (.int p2), .val (.long q3), .second, .val (.int p4), .val (.int p5), .val (.int p6), .val (.int (p1 &&& (3 : Int32))), .val (.ref b_1), .val (.int (0 : Int32)), .val (.ref b_43), .unset, .unset, .unset, .unset, .unset] [(.int (0 : Int32))]))
        refine own_via (fun _ => XS.iconst X_43.here hx rfl (hb hby at_316)) ?_
        show own_Go p e below _ (T_43.setTop (mkF m 317 #[.val (.int p1), .val (.int p2), .val (.long q3), .second, .val (.int p4), .val (.int p5), .val (.int p6), .val (.int (p1 &&& (3 : Int32))), .val (.ref b_1), .val (.int (0 : Int32)), .val (.ref b_43), .unset, .unset, .unset, .unset, .unset] [(.int (5 : Int32)), (.int (0 : Int32))]))
        refine own_via (fun _ => XS.icmpYes X_43.here hx rfl (pc0 := 317) (pc' := 328) rfl (hb hby at_317) rfl (flt ((by decide) : ¬ ((5 : Int32) < (0 : Int32)))).2.2.2 (by decide) (by decide)) ?_
        show own_Go p e below _ (T_43.setTop (mkF m 328 #[.val (.int p1), .val (.int p2), .val (.long q3), .second, .val (.int p4), .val (.int p5), .val (.int p6), .val (.int (p1 &&& (3 : Int32))), .val (.ref b_1), .val (.int (0 : Int32)), .val (.ref b_43), .unset, .unset, .unset, .unset, .unset] []))
        refine own_via (fun _ => XS.iload X_43.here hx rfl (hb hby at_328) rfl) ?_
        show own_Go p e below _ (T_43.setTop (mkF m 330 #[.val (.int p1), .val (.int p2), .val (.long q3), .second, .val (.int p4), .val (.int p5), .val (.int p6), .val (.int (p1 &&& (3 : Int32))), .val (.ref b_1), .val (.int (0 : Int32)), .val (.ref b_43), .unset, .unset, .unset, .unset, .unset] [(.int (0 : Int32))]))
        refine own_via (fun _ => XS.bipush X_43.here hx rfl (hb hby at_330)) ?_
        show own_Go p e below _ (T_43.setTop (mkF m 332 #[.val (.int p1), .val (.int p2), .val (.long q3), .second, .val (.int p4), .val (.int p5), .val (.int p6), .val (.int (p1 &&& (3 : Int32))), .val (.ref b_1), .val (.int (0 : Int32)), .val (.ref b_43), .unset, .unset, .unset, .unset, .unset] [(.int (6 : Int32)), (.int (0 : Int32))]))
        refine own_via (fun _ => XS.icmpYes X_43.here hx rfl (pc0 := 332) (pc' := 345) rfl (hb hby at_332) rfl (flt ((by decide) : ¬ ((6 : Int32) < (0 : Int32)))).2.2.2 (by decide) (by decide)) ?_
        show own_Go p e below _ (T_43.setTop (mkF m 345 #[.val (.int p1), .val (.int p2), .val (.long q3), .second, .val (.int p4), .val (.int p5), .val (.int p6), .val (.int (p1 &&& (3 : Int32))), .val (.ref b_1), .val (.int (0 : Int32)), .val (.ref b_43), .unset, .unset, .unset, .unset, .unset] []))
        obtain ⟨T_44, h_44, X_44, e_44, E_44, A_44, D_44, -, st_44⟩ := newO X_43 hx hZ hown (own_w hw 6 rfl) (own_w hw 7 rfl) (own_w hw 8 rfl) e_43 (g := (mkF m 345 #[.val (.int p1), .val (.int p2), .val (.long q3), .second, .val (.int p4), .val (.int p5), .val (.int p6), .val (.int (p1 &&& (3 : Int32))), .val (.ref b_1), .val (.int (0 : Int32)), .val (.ref b_43), .unset, .unset, .unset, .unset, .unset] [])) rfl (hb hby at_345) (by decide) (by decide)
        obtain ⟨b_44, g_44⟩ : ∃ z, z = h_43.size := ⟨_, rfl⟩
        rw [← g_44] at A_44 D_44 st_44
        have F_45 : Fld Z h_44 b_44 "com/example/cascadilla/cascadilla/language/Type" "name" "Ljava/lang/String;" .null := D_44 (Or.inr (own_w hw 43 rfl)) (ty := (.object "java/lang/String")) (by decide)
        have F_46 : Fld Z h_44 b_44 "com/example/cascadilla/cascadilla/language/Type" "label" "Lcom/example/cascadilla/cascadilla/language/Label;" .null := D_44 (Or.inr (own_w hw 45 rfl)) (ty := (.object "com/example/cascadilla/cascadilla/language/Label")) (by decide)
        have F_47 : Fld Z h_44 b_44 "com/example/cascadilla/cascadilla/language/Type" "line" "I" (.int (0 : Int32)) := D_44 (Or.inr (own_w hw 47 rfl)) (ty := .int) (by decide)
        refine own_via st_44 ?_
        show own_Go p e below _ (T_44.setTop (mkF m 348 #[.val (.int p1), .val (.int p2), .val (.long q3), .second, .val (.int p4), .val (.int p5), .val (.int p6), .val (.int (p1 &&& (3 : Int32))), .val (.ref b_1), .val (.int (0 : Int32)), .val (.ref b_43), .unset, .unset, .unset, .unset, .unset] [(.ref b_44)]))
        refine own_via (fun _ => XS.dup X_44.here hx rfl (hb hby at_348) rfl rfl) ?_
        show own_Go p e below _ (T_44.setTop (mkF m 349 #[.val (.int p1), .val (.int p2), .val (.long q3), .second, .val (.int p4), .val (.int p5), .val (.int p6), .val (.int (p1 &&& (3 : Int32))), .val (.ref b_1), .val (.int (0 : Int32)), .val (.ref b_43), .unset, .unset, .unset, .unset, .unset] [(.ref b_44), (.ref b_44)]))
        obtain ⟨T_48, h_48, X_48, e_48, E_48, A_48, D_48, -, st_48⟩ := newO X_44 hx hZ hown (own_w hw 9 rfl) (own_w hw 10 rfl) (own_w hw 11 rfl) e_44 (g := (mkF m 349 #[.val (.int p1), .val (.int p2), .val (.long q3), .second, .val (.int p4), .val (.int p5), .val (.int p6), .val (.int (p1 &&& (3 : Int32))), .val (.ref b_1), .val (.int (0 : Int32)), .val (.ref b_43), .unset, .unset, .unset, .unset, .unset] [(.ref b_44), (.ref b_44)])) rfl (hb hby at_349) (by decide) (by decide)
        obtain ⟨b_48, g_48⟩ : ∃ z, z = h_44.size := ⟨_, rfl⟩
        rw [← g_48] at A_48 D_48 st_48
        have F_49 : Fld Z h_48 b_48 "java/lang/String" "coder" "B" (.int (0 : Int32)) := D_48 (Or.inr (own_w hw 35 rfl)) (ty := .byte) (by decide)
        have F_50 : Fld Z h_48 b_48 "java/lang/String" "value" "[B" .null := D_48 (Or.inr (own_w hw 37 rfl)) (ty := (.array .byte)) (by decide)
        refine own_via st_48 ?_
        show own_Go p e below _ (T_48.setTop (mkF m 352 #[.val (.int p1), .val (.int p2), .val (.long q3), .second, .val (.int p4), .val (.int p5), .val (.int p6), .val (.int (p1 &&& (3 : Int32))), .val (.ref b_1), .val (.int (0 : Int32)), .val (.ref b_43), .unset, .unset, .unset, .unset, .unset] [(.ref b_48), (.ref b_44), (.ref b_44)]))
        refine own_via (fun _ => XS.dup X_48.here hx rfl (hb hby at_352) rfl rfl) ?_
        show own_Go p e below _ (T_48.setTop (mkF m 353 #[.val (.int p1), .val (.int p2), .val (.long q3), .second, .val (.int p4), .val (.int p5), .val (.int p6), .val (.int (p1 &&& (3 : Int32))), .val (.ref b_1), .val (.int (0 : Int32)), .val (.ref b_43), .unset, .unset, .unset, .unset, .unset] [(.ref b_48), (.ref b_48), (.ref b_44), (.ref b_44)]))
        refine own_via (fun _ => XS.aload X_48.here hx rfl (hb hby at_353) rfl rfl) ?_
        show own_Go p e below _ (T_48.setTop (mkF m 355 #[.val (.int p1), .val (.int p2), .val (.long q3), .second, .val (.int p4), .val (.int p5), .val (.int p6), .val (.int (p1 &&& (3 : Int32))), .val (.ref b_1), .val (.int (0 : Int32)), .val (.ref b_43), .unset, .unset, .unset, .unset, .unset] [(.ref b_43), (.ref b_48), (.ref b_48), (.ref b_44), (.ref b_44)]))
        have K_51 : Keep h_43 h_44 [] := (Keep.refl h_43 []).ext E_44
        have K_52 : Keep h_43 h_48 [] := K_51.ext E_48
        have K_53 : Keep h0 h_28 [] := Keep.wr (ws := []) K_26 W_28 (Or.inr (Nat.le_of_eq g_1.symm))
        have K_54 : Keep h0 h_33 [] := Keep.trans (ws := []) K_53 K_34 (allS (Or.inr (Nat.le_of_eq g_1.symm)) all0)
        have K_55 : Keep h0 h_38 [] := Keep.trans (ws := []) K_54 K_39 (allS (Or.inr (Nat.le_of_eq g_1.symm)) all0)
        have K_56 : Keep h0 h_43 [] := K_55.ext E_43
        have K_57 : Keep h0 h_44 [] := K_56.ext E_44
        have K_58 : Keep h0 h_48 [] := K_57.ext E_48
        have K_59 : Keep h_44 h_48 [] := (Keep.refl h_44 []).ext E_48
        obtain ⟨_, _, ⟨T_60, L_60, k_60, n_60⟩, -, Xc_60, hSc_60, hgc_60, ⟨Lc_60, hQ_60, l_60, y_60, z_60⟩, st_60⟩ := X_48.specialBackS hx (y := (⟨"java/lang/String", "<init>", "([C)V"⟩ : MethodName)) rfl hown (mvT hZ (own_w hw 12 rfl)) (mvT hZ (own_w hw 13 rfl)) (mvT hZ (own_w hw 14 rfl)) (by decide) (own_backS (J := fun vm_ => CHv Z consts_1 vm_ h_48 ∧ Safe Z consts_1 vm_ h_48 b_48) (W := 3) (rmstrC0 l Z a0 hw [] b_48 b_43 k_43 h_48 n0 (Nat.le_trans Z0 K_58.1) (O0.keep K_58 all0) A_48 F_50 F_49 (Nat.le_trans Z0 (Nat.le_trans K_57.1 (Nat.le_of_eq g_48.symm))) (V_43.keep K_52 nin0)) hZ (own_w hw 14 rfl) (own_w hw 11 rfl) (by decide) (by decide)) (g := (mkF m 355 #[.val (.int p1), .val (.int p2), .val (.long q3), .second, .val (.int p4), .val (.int p5), .val (.int p6), .val (.int (p1 &&& (3 : Int32))), .val (.ref b_1), .val (.int (0 : Int32)), .val (.ref b_43), .unset, .unset, .unset, .unset, .unset] [(.ref b_43), (.ref b_48), (.ref b_48), (.ref b_44), (.ref b_44)])) rfl (by rw [hml]; rfl) (Steps.refl _) (a := b_48) (argsL := [(.ref b_43)]) (rest := [(.ref b_48), (.ref b_44), (.ref b_44)]) (lenOf pd_6 rfl) rfl (by show 2 * 0 + _ ≤ _; exact Nat.le_of_eq rfl) (hb hby at_355) (fun _ hW1 => ⟨rfl, e_48, ⟨(own_CHstay (J0.keep K_58 all0) hZ (own_EW hw) hW1), (own_Sfstay (J0.keep K_58 all0) hZ (own_EW hw) hW1 A_48.lt (Safe.keep K_59 all0 (J0.keep K_57 all0) (Safe.new (Nat.le_of_eq g_48.symm))))⟩, (by decide : 4 + 2 ≤ _), (by decide : 14 + 4 ≤ _)⟩)
        dsimp only [Pt.U, Pt.locs, Pt.cells, Pt.slots] at Xc_60 hSc_60 hgc_60 l_60 y_60 z_60 st_60 hQ_60
        subst l_60 y_60 z_60
        obtain ⟨X_60, hS_60, hZ_60, ho_60⟩ := rebS hS0 (by rw [e_48]; exact (Nat.le_trans (Nat.zero_le _) K_58.1)) Xc_60 hSc_60 hgc_60 hZ hown
        obtain ⟨rfl, Nq_60, K_60q, q_60_0, J_60⟩ := hQ_60
        have N_60 := Fr.app N_39 Nq_60
        refine own_via (fun _ k => st_60.trans k) ?_
        show own_Go p e below _ (T_60.setTop (mkF m 358 #[.val (.int p1), .val (.int p2), .val (.long q3), .second, .val (.int p4), .val (.int p5), .val (.int p6), .val (.int (p1 &&& (3 : Int32))), .val (.ref b_1), .val (.int (0 : Int32)), .val (.ref b_43), .unset, .unset, .unset, .unset, .unset] [(.ref b_48), (.ref b_44), (.ref b_44)]))
        refine own_via (fun _ => XS.aconstNull X_60.here hx rfl (hb hby at_358)) ?_
        show own_Go p e below _ (T_60.setTop (mkF m 359 #[.val (.int p1), .val (.int p2), .val (.long q3), .second, .val (.int p4), .val (.int p5), .val (.int p6), .val (.int (p1 &&& (3 : Int32))), .val (.ref b_1), .val (.int (0 : Int32)), .val (.ref b_43), .unset, .unset, .unset, .unset, .unset] [.null, (.ref b_48), (.ref b_44), (.ref b_44)]))
        refine own_via (fun _ => XS.iload X_60.here hx rfl (hb hby at_359) rfl) ?_
        show own_Go p e below _ (T_60.setTop (mkF m 361 #[.val (.int p1), .val (.int p2), .val (.long q3), .second, .val (.int p4), .val (.int p5), .val (.int p6), .val (.int (p1 &&& (3 : Int32))), .val (.ref b_1), .val (.int (0 : Int32)), .val (.ref b_43), .unset, .unset, .unset, .unset, .unset] [(.int p6), .null, (.ref b_48), (.ref b_44), (.ref b_44)]))
        have K_61 : Keep h_44 T_60.heap [] := Keep.trans (ws := []) K_59 K_60q (allS (Or.inr (Nat.le_of_eq g_48.symm)) all0)
        have K_62 : Keep h0 T_60.heap [] := Keep.trans (ws := []) K_58 K_60q (allS (Or.inr (Nat.le_trans K_57.1 (Nat.le_of_eq g_48.symm))) all0)
        obtain ⟨_, _, ⟨T_63, L_63, k_63, n_63⟩, -, X_63, ⟨Lc_63, hQ_63, l_63, y_63, z_63⟩, st_63⟩ := X_60.specialBack hx (y := (⟨"com/example/cascadilla/cascadilla/language/Type", "<init>", "(Ljava/lang/String;Lcom/example/cascadilla/cascadilla/language/Label;I)V"⟩ : MethodName)) rfl ho_60 (mvT hZ_60 (own_w hw 38 rfl)) (mvT hZ_60 (own_w hw 39 rfl)) (mvT hZ_60 (own_w hw 40 rfl)) (by decide) (backOf (W := 1) (rmtype l Z a0 hw [] b_44 b_48 p6 T_60.heap n0 (Nat.le_trans Z0 K_62.1) (A_44.keep K_61) (F_45.keep K_61 nin0) (F_46.keep K_61 nin0) (F_47.keep K_61 nin0) (Nat.le_trans Z0 (Nat.le_trans K_56.1 (Nat.le_of_eq g_44.symm)))) hZ_60 (own_w hw 40 rfl) (own_w hw 8 rfl) (by decide) (by decide)) (g := (mkF m 361 #[.val (.int p1), .val (.int p2), .val (.long q3), .second, .val (.int p4), .val (.int p5), .val (.int p6), .val (.int (p1 &&& (3 : Int32))), .val (.ref b_1), .val (.int (0 : Int32)), .val (.ref b_43), .unset, .unset, .unset, .unset, .unset] [(.int p6), .null, (.ref b_48), (.ref b_44), (.ref b_44)])) rfl (by rw [hml]; rfl) (Steps.refl _) (a := b_44) (argsL := [(.ref b_48), .null, (.int p6)]) (rest := [(.ref b_44)]) (lenOf pd_7 rfl) rfl (by show 2 * 0 + _ ≤ _; exact Nat.le_of_eq rfl) (hb hby at_361) (fun _ _ => ⟨rfl, rfl, (by decide : 6 + 0 ≤ _), (by decide : 18 + 0 ≤ _)⟩)
        dsimp only [Pt.U, Pt.locs, Pt.cells, Pt.slots] at X_63 l_63 y_63 z_63 st_63 hQ_63
        subst l_63 y_63 z_63
        obtain ⟨rfl, Nq_63, K_63q, q_63_0⟩ := hQ_63
        have N_63 := Fr.app N_60 Nq_63
        refine own_via (fun _ k => st_63.trans k) ?_
        show own_Go p e below _ (T_63.setTop (mkF m 364 #[.val (.int p1), .val (.int p2), .val (.long q3), .second, .val (.int p4), .val (.int p5), .val (.int p6), .val (.int (p1 &&& (3 : Int32))), .val (.ref b_1), .val (.int (0 : Int32)), .val (.ref b_43), .unset, .unset, .unset, .unset, .unset] [(.ref b_44)]))
        refine own_via (fun _ => XS.astore X_63.here hx rfl (hb hby at_364) rfl rfl (l' := #[.val (.int p1), .val (.int p2), .val (.long q3), .second, .val (.int p4), .val (.int p5), .val (.int p6), .val (.int (p1 &&& (3 : Int32))), .val (.ref b_1), .val (.int (0 : Int32)), .val (.ref b_43), .val (.ref b_44), .unset, .unset, .unset, .unset]) rfl) ?_
        show own_Go p e below _ (T_63.setTop (mkF m 366 #[.val (.int p1), .val (.int p2), .val (.long q3), .second, .val (.int p4), .val (.int p5), .val (.int p6), .val (.int (p1 &&& (3 : Int32))), .val (.ref b_1), .val (.int (0 : Int32)), .val (.ref b_43), .val (.ref b_44), .unset, .unset, .unset, .unset] []))
        refine own_via (fun _ => XS.aload X_63.here hx rfl (hb hby at_366) rfl rfl) ?_
        show own_Go p e below _ (T_63.setTop (mkF m 368 #[.val (.int p1), .val (.int p2), .val (.long q3), .second, .val (.int p4), .val (.int p5), .val (.int p6), .val (.int (p1 &&& (3 : Int32))), .val (.ref b_1), .val (.int (0 : Int32)), .val (.ref b_43), .val (.ref b_44), .unset, .unset, .unset, .unset] [(.ref b_44)]))
        have K_64 : Keep T_60.heap T_63.heap [b_44] := Keep.trans (ws := [b_44]) (own_keep_mono (Keep.refl T_60.heap []) (by simp)) K_63q (allS (Or.inl (List.mem_of_getElem? (i := 0) rfl)) all0)
        have K_65 : Keep h0 T_63.heap [] := Keep.trans (ws := []) K_62 K_63q (allS (Or.inr (Nat.le_trans K_56.1 (Nat.le_of_eq g_44.symm))) all0)
        have K_67 : Keep h_44 T_63.heap [b_44] := Keep.trans (ws := [b_44]) (own_keep_mono K_61 (by simp)) K_63q (allS (Or.inl (List.mem_of_getElem? (i := 0) rfl)) all0)
        obtain ⟨cq_66, kq_66, q_66a, q_66b, q_66c⟩ := isOf hZ_60 rfl (A_44.keep K_67)
        obtain ⟨_, _, ⟨T_66, L_66, k_66, n_66⟩, -, Xc_66, hSc_66, hgc_66, ⟨Lc_66, hQ_66, l_66, y_66, z_66⟩, st_66⟩ := X_63.virtualBackS hx (y := (⟨"com/example/cascadilla/cascadilla/language/Type", "isClass", "()Z"⟩ : MethodName)) (z := (⟨"com/example/cascadilla/cascadilla/language/Type", "isClass", "()Z"⟩ : MethodName)) ho_60 (mvT hZ_60 (own_w hw 48 rfl)) (mvT hZ_60 (own_w hw 49 rfl)) (notFace_of_selects (args := #[]) (mvT hZ_60 (own_w hw 51 rfl))) (mvT hZ_60 (own_w hw 51 rfl)) (mvT hZ_60 (own_w hw 50 rfl)) (by decide) (own_backS (J := fun vm_ => CHv Z consts_1 vm_ T_63.heap) (W := 0) (rmisClass l Z a0 hw [] b_44 b_48 [] cs T_63.heap n0 (Nat.le_trans Z0 K_65.1) (O0.keep K_65 all0) Scs hcs q_63_0 (q_60_0.keepO K_64 (own_offS (A_44.keep K_61) (by decide) (own_w hw 7 rfl) own_off0))) hZ_60 (own_w hw 52 rfl) (own_w hw 8 rfl) (by decide) (by decide)) q_66a q_66c (g := (mkF m 368 #[.val (.int p1), .val (.int p2), .val (.long q3), .second, .val (.int p4), .val (.int p5), .val (.int p6), .val (.int (p1 &&& (3 : Int32))), .val (.ref b_1), .val (.int (0 : Int32)), .val (.ref b_43), .val (.ref b_44), .unset, .unset, .unset, .unset] [(.ref b_44)])) rfl (by rw [hml]; rfl) (Steps.refl _) (argsL := []) (rest := []) (lenOf pd_8 rfl) rfl (by show 2 * 0 + _ ≤ _; exact Nat.le_of_eq rfl) (hb hby at_368) (fun _ hW1 => ⟨rfl, rfl, (own_CHstay (J_60.keep K_64 (allS (Safe.exa hZ_60.alike (A_44.keep K_61) (by decide) (by decide)) all0)) hZ_60 (own_EW hw) hW1), (by decide : 6 + 4 ≤ _), (by decide : 18 + 48 ≤ _)⟩)
        dsimp only [Pt.U, Pt.locs, Pt.cells, Pt.slots] at Xc_66 hSc_66 hgc_66 l_66 y_66 z_66 st_66 hQ_66
        subst l_66 y_66 z_66
        obtain ⟨X_66, hS_66, hZ_66, ho_66⟩ := rebS hS_60 (Nat.le_trans (Nat.le_refl _) K_64.1) Xc_66 hSc_66 hgc_66 hZ_60 ho_60
        obtain ⟨i_68, rfl, Nq_66, K_66q, q_66_0, J_66⟩ := hQ_66
        have N_66 := Fr.app N_63 Nq_66
        refine own_via (fun _ k => st_66.trans k) ?_
        show own_Go p e below _ (T_66.setTop (mkF m 371 #[.val (.int p1), .val (.int p2), .val (.long q3), .second, .val (.int p4), .val (.int p5), .val (.int p6), .val (.int (p1 &&& (3 : Int32))), .val (.ref b_1), .val (.int (0 : Int32)), .val (.ref b_43), .val (.ref b_44), .unset, .unset, .unset, .unset] [(.int i_68)]))
        refine own_via (fun _ => XS.istore X_66.here hx rfl (hb hby at_371) rfl (l' := #[.val (.int p1), .val (.int p2), .val (.long q3), .second, .val (.int p4), .val (.int p5), .val (.int p6), .val (.int (p1 &&& (3 : Int32))), .val (.ref b_1), .val (.int (0 : Int32)), .val (.ref b_43), .val (.ref b_44), .val (.int i_68), .unset, .unset, .unset]) rfl) ?_
        show own_Go p e below _ (T_66.setTop (mkF m 373 #[.val (.int p1), .val (.int p2), .val (.long q3), .second, .val (.int p4), .val (.int p5), .val (.int p6), .val (.int (p1 &&& (3 : Int32))), .val (.ref b_1), .val (.int (0 : Int32)), .val (.ref b_43), .val (.ref b_44), .val (.int i_68), .unset, .unset, .unset] []))
        refine own_via (fun _ => XS.iload X_66.here hx rfl (hb hby at_373) rfl) ?_
        show own_Go p e below _ (T_66.setTop (mkF m 375 #[.val (.int p1), .val (.int p2), .val (.long q3), .second, .val (.int p4), .val (.int p5), .val (.int p6), .val (.int (p1 &&& (3 : Int32))), .val (.ref b_1), .val (.int (0 : Int32)), .val (.ref b_43), .val (.ref b_44), .val (.int i_68), .unset, .unset, .unset] [(.int (0 : Int32))]))
        refine own_via (fun _ => XS.iconst X_66.here hx rfl (hb hby at_375)) ?_
        show own_Go p e below _ (T_66.setTop (mkF m 376 #[.val (.int p1), .val (.int p2), .val (.long q3), .second, .val (.int p4), .val (.int p5), .val (.int p6), .val (.int (p1 &&& (3 : Int32))), .val (.ref b_1), .val (.int (0 : Int32)), .val (.ref b_43), .val (.ref b_44), .val (.int i_68), .unset, .unset, .unset] [(.int (3 : Int32)), (.int (0 : Int32))]))
        obtain ⟨z13, ez13⟩ : ∃ z : Int32, z = (0 : Int32) := ⟨_, rfl⟩
        refine own_seq (B := T_66.setTop (mkF m 411 #[.val (.int p1), .val (.int p2), .val (.long q3), .second, .val (.int p4), .val (.int p5), .val (.int p6), .val (.int (p1 &&& (3 : Int32))), .val (.ref b_1), .val (.int (0 : Int32)), .val (.ref b_43), .val (.ref b_44), .val (.int i_68), .unset, .unset, .unset] [(.int z13)])) (fun kz => ?_) ?_
        · refine own_via (fun _ => XS.icmpYes X_66.here hx rfl (pc0 := 376) (pc' := 410) rfl (hb hby at_376) rfl (feq ((by decide) : ¬ ((0 : Int32) = (3 : Int32)))).2 (by decide) (by decide)) ?_
          show own_Go p e below _ (T_66.setTop (mkF m 410 #[.val (.int p1), .val (.int p2), .val (.long q3), .second, .val (.int p4), .val (.int p5), .val (.int p6), .val (.int (p1 &&& (3 : Int32))), .val (.ref b_1), .val (.int (0 : Int32)), .val (.ref b_43), .val (.ref b_44), .val (.int i_68), .unset, .unset, .unset] []))
          refine own_via (fun _ => XS.iconst X_66.here hx rfl (hb hby at_410)) ?_
          show own_Go p e below _ (T_66.setTop (mkF m 411 #[.val (.int p1), .val (.int p2), .val (.long q3), .second, .val (.int p4), .val (.int p5), .val (.int p6), .val (.int (p1 &&& (3 : Int32))), .val (.ref b_1), .val (.int (0 : Int32)), .val (.ref b_43), .val (.ref b_44), .val (.int i_68), .unset, .unset, .unset] [(.int (0 : Int32))]))
          subst ez13
          exact kz
        show own_Go p e below _ (T_66.setTop (mkF m 411 #[.val (.int p1), .val (.int p2), .val (.long q3), .second, .val (.int p4), .val (.int p5), .val (.int p6), .val (.int (p1 &&& (3 : Int32))), .val (.ref b_1), .val (.int (0 : Int32)), .val (.ref b_43), .val (.ref b_44), .val (.int i_68), .unset, .unset, .unset] [(.int z13)]))
        refine own_via (fun _ => XS.istore X_66.here hx rfl (hb hby at_411) rfl (l' := #[.val (.int p1), .val (.int p2), .val (.long q3), .second, .val (.int p4), .val (.int p5), .val (.int p6), .val (.int (p1 &&& (3 : Int32))), .val (.ref b_1), .val (.int (0 : Int32)), .val (.ref b_43), .val (.ref b_44), .val (.int i_68), .val (.int z13), .unset, .unset]) rfl) ?_
        show own_Go p e below _ (T_66.setTop (mkF m 413 #[.val (.int p1), .val (.int p2), .val (.long q3), .second, .val (.int p4), .val (.int p5), .val (.int p6), .val (.int (p1 &&& (3 : Int32))), .val (.ref b_1), .val (.int (0 : Int32)), .val (.ref b_43), .val (.ref b_44), .val (.int i_68), .val (.int z13), .unset, .unset] []))
        refine own_via (fun _ => XS.iload X_66.here hx rfl (hb hby at_413) rfl) ?_
        show own_Go p e below _ (T_66.setTop (mkF m 415 #[.val (.int p1), .val (.int p2), .val (.long q3), .second, .val (.int p4), .val (.int p5), .val (.int p6), .val (.int (p1 &&& (3 : Int32))), .val (.ref b_1), .val (.int (0 : Int32)), .val (.ref b_43), .val (.ref b_44), .val (.int i_68), .val (.int z13), .unset, .unset] [(.int (0 : Int32))]))
        refine own_via (fun _ => XS.bipush X_66.here hx rfl (hb hby at_415)) ?_
        show own_Go p e below _ (T_66.setTop (mkF m 417 #[.val (.int p1), .val (.int p2), .val (.long q3), .second, .val (.int p4), .val (.int p5), .val (.int p6), .val (.int (p1 &&& (3 : Int32))), .val (.ref b_1), .val (.int (0 : Int32)), .val (.ref b_43), .val (.ref b_44), .val (.int i_68), .val (.int z13), .unset, .unset] [(.int (7 : Int32)), (.int (0 : Int32))]))
        obtain ⟨z14, ez14⟩ : ∃ z : Int32, z = (0 : Int32) := ⟨_, rfl⟩
        refine own_seq (B := T_66.setTop (mkF m 489 #[.val (.int p1), .val (.int p2), .val (.long q3), .second, .val (.int p4), .val (.int p5), .val (.int p6), .val (.int (p1 &&& (3 : Int32))), .val (.ref b_1), .val (.int (0 : Int32)), .val (.ref b_43), .val (.ref b_44), .val (.int i_68), .val (.int z13), .unset, .unset] [(.int z14)])) (fun kz => ?_) ?_
        · refine own_via (fun _ => XS.icmpYes X_66.here hx rfl (pc0 := 417) (pc' := 488) rfl (hb hby at_417) rfl (feq ((by decide) : ¬ ((0 : Int32) = (7 : Int32)))).2 (by decide) (by decide)) ?_
          show own_Go p e below _ (T_66.setTop (mkF m 488 #[.val (.int p1), .val (.int p2), .val (.long q3), .second, .val (.int p4), .val (.int p5), .val (.int p6), .val (.int (p1 &&& (3 : Int32))), .val (.ref b_1), .val (.int (0 : Int32)), .val (.ref b_43), .val (.ref b_44), .val (.int i_68), .val (.int z13), .unset, .unset] []))
          refine own_via (fun _ => XS.iconst X_66.here hx rfl (hb hby at_488)) ?_
          show own_Go p e below _ (T_66.setTop (mkF m 489 #[.val (.int p1), .val (.int p2), .val (.long q3), .second, .val (.int p4), .val (.int p5), .val (.int p6), .val (.int (p1 &&& (3 : Int32))), .val (.ref b_1), .val (.int (0 : Int32)), .val (.ref b_43), .val (.ref b_44), .val (.int i_68), .val (.int z13), .unset, .unset] [(.int (0 : Int32))]))
          subst ez14
          exact kz
        show own_Go p e below _ (T_66.setTop (mkF m 489 #[.val (.int p1), .val (.int p2), .val (.long q3), .second, .val (.int p4), .val (.int p5), .val (.int p6), .val (.int (p1 &&& (3 : Int32))), .val (.ref b_1), .val (.int (0 : Int32)), .val (.ref b_43), .val (.ref b_44), .val (.int i_68), .val (.int z13), .unset, .unset] [(.int z14)]))
        refine own_via (fun _ => XS.istore X_66.here hx rfl (hb hby at_489) rfl (l' := #[.val (.int p1), .val (.int p2), .val (.long q3), .second, .val (.int p4), .val (.int p5), .val (.int p6), .val (.int (p1 &&& (3 : Int32))), .val (.ref b_1), .val (.int (0 : Int32)), .val (.ref b_43), .val (.ref b_44), .val (.int i_68), .val (.int z13), .val (.int z14), .unset]) rfl) ?_
        show own_Go p e below _ (T_66.setTop (mkF m 491 #[.val (.int p1), .val (.int p2), .val (.long q3), .second, .val (.int p4), .val (.int p5), .val (.int p6), .val (.int (p1 &&& (3 : Int32))), .val (.ref b_1), .val (.int (0 : Int32)), .val (.ref b_43), .val (.ref b_44), .val (.int i_68), .val (.int z13), .val (.int z14), .unset] []))
        refine own_via (fun _ => XS.iload X_66.here hx rfl (hb hby at_491) rfl) ?_
        show own_Go p e below _ (T_66.setTop (mkF m 493 #[.val (.int p1), .val (.int p2), .val (.long q3), .second, .val (.int p4), .val (.int p5), .val (.int p6), .val (.int (p1 &&& (3 : Int32))), .val (.ref b_1), .val (.int (0 : Int32)), .val (.ref b_43), .val (.ref b_44), .val (.int i_68), .val (.int z13), .val (.int z14), .unset] [(.int z13)]))
        obtain ⟨z15, ez15⟩ : ∃ z : Int32, z = (if z13 = (0 : Int32) then (if z14 = (0 : Int32) then (1 : Int32) else (0 : Int32)) else (0 : Int32)) := ⟨_, rfl⟩
        refine own_seq (B := T_66.setTop (mkF m 506 #[.val (.int p1), .val (.int p2), .val (.long q3), .second, .val (.int p4), .val (.int p5), .val (.int p6), .val (.int (p1 &&& (3 : Int32))), .val (.ref b_1), .val (.int (0 : Int32)), .val (.ref b_43), .val (.ref b_44), .val (.int i_68), .val (.int z13), .val (.int z14), .unset] [(.int z15)])) (fun kz => ?_) ?_
        · by_cases hv_69 : z13 = (0 : Int32)
          · refine own_via (fun _ => XS.ifNo X_66.here hx rfl (hb hby at_493) rfl ((if0 _ _).trans (teq (hv_69 : z13 = (0 : Int32))).2)) ?_
            show own_Go p e below _ (T_66.setTop (mkF m 496 #[.val (.int p1), .val (.int p2), .val (.long q3), .second, .val (.int p4), .val (.int p5), .val (.int p6), .val (.int (p1 &&& (3 : Int32))), .val (.ref b_1), .val (.int (0 : Int32)), .val (.ref b_43), .val (.ref b_44), .val (.int i_68), .val (.int z13), .val (.int z14), .unset] []))
            refine own_via (fun _ => XS.iload X_66.here hx rfl (hb hby at_496) rfl) ?_
            show own_Go p e below _ (T_66.setTop (mkF m 498 #[.val (.int p1), .val (.int p2), .val (.long q3), .second, .val (.int p4), .val (.int p5), .val (.int p6), .val (.int (p1 &&& (3 : Int32))), .val (.ref b_1), .val (.int (0 : Int32)), .val (.ref b_43), .val (.ref b_44), .val (.int i_68), .val (.int z13), .val (.int z14), .unset] [(.int z14)]))
            by_cases hv_70 : z14 = (0 : Int32)
            · refine own_via (fun _ => XS.ifNo X_66.here hx rfl (hb hby at_498) rfl ((if0 _ _).trans (teq (hv_70 : z14 = (0 : Int32))).2)) ?_
              show own_Go p e below _ (T_66.setTop (mkF m 501 #[.val (.int p1), .val (.int p2), .val (.long q3), .second, .val (.int p4), .val (.int p5), .val (.int p6), .val (.int (p1 &&& (3 : Int32))), .val (.ref b_1), .val (.int (0 : Int32)), .val (.ref b_43), .val (.ref b_44), .val (.int i_68), .val (.int z13), .val (.int z14), .unset] []))
              refine own_via (fun _ => XS.iconst X_66.here hx rfl (hb hby at_501)) ?_
              show own_Go p e below _ (T_66.setTop (mkF m 502 #[.val (.int p1), .val (.int p2), .val (.long q3), .second, .val (.int p4), .val (.int p5), .val (.int p6), .val (.int (p1 &&& (3 : Int32))), .val (.ref b_1), .val (.int (0 : Int32)), .val (.ref b_43), .val (.ref b_44), .val (.int i_68), .val (.int z13), .val (.int z14), .unset] [(.int (1 : Int32))]))
              refine own_via (fun _ => XS.goto X_66.here hx rfl (pc0 := 502) (pc' := 506) rfl (hb hby at_502) (by decide) (by decide)) ?_
              show own_Go p e below _ (T_66.setTop (mkF m 506 #[.val (.int p1), .val (.int p2), .val (.long q3), .second, .val (.int p4), .val (.int p5), .val (.int p6), .val (.int (p1 &&& (3 : Int32))), .val (.ref b_1), .val (.int (0 : Int32)), .val (.ref b_43), .val (.ref b_44), .val (.int i_68), .val (.int z13), .val (.int z14), .unset] [(.int (1 : Int32))]))
              rw [if_pos hv_69] at ez15
              rw [if_pos hv_70] at ez15
              subst ez15
              exact kz
            · refine own_via (fun _ => XS.ifYes X_66.here hx rfl (pc0 := 498) (pc' := 505) rfl (hb hby at_498) rfl ((if0 _ _).trans (feq (hv_70 : ¬ (z14 = (0 : Int32)))).2) (by decide) (by decide)) ?_
              show own_Go p e below _ (T_66.setTop (mkF m 505 #[.val (.int p1), .val (.int p2), .val (.long q3), .second, .val (.int p4), .val (.int p5), .val (.int p6), .val (.int (p1 &&& (3 : Int32))), .val (.ref b_1), .val (.int (0 : Int32)), .val (.ref b_43), .val (.ref b_44), .val (.int i_68), .val (.int z13), .val (.int z14), .unset] []))
              refine own_via (fun _ => XS.iconst X_66.here hx rfl (hb hby at_505)) ?_
              show own_Go p e below _ (T_66.setTop (mkF m 506 #[.val (.int p1), .val (.int p2), .val (.long q3), .second, .val (.int p4), .val (.int p5), .val (.int p6), .val (.int (p1 &&& (3 : Int32))), .val (.ref b_1), .val (.int (0 : Int32)), .val (.ref b_43), .val (.ref b_44), .val (.int i_68), .val (.int z13), .val (.int z14), .unset] [(.int (0 : Int32))]))
              rw [if_pos hv_69] at ez15
              rw [if_neg hv_70] at ez15
              subst ez15
              exact kz
          · refine own_via (fun _ => XS.ifYes X_66.here hx rfl (pc0 := 493) (pc' := 505) rfl (hb hby at_493) rfl ((if0 _ _).trans (feq (hv_69 : ¬ (z13 = (0 : Int32)))).2) (by decide) (by decide)) ?_
            show own_Go p e below _ (T_66.setTop (mkF m 505 #[.val (.int p1), .val (.int p2), .val (.long q3), .second, .val (.int p4), .val (.int p5), .val (.int p6), .val (.int (p1 &&& (3 : Int32))), .val (.ref b_1), .val (.int (0 : Int32)), .val (.ref b_43), .val (.ref b_44), .val (.int i_68), .val (.int z13), .val (.int z14), .unset] []))
            refine own_via (fun _ => XS.iconst X_66.here hx rfl (hb hby at_505)) ?_
            show own_Go p e below _ (T_66.setTop (mkF m 506 #[.val (.int p1), .val (.int p2), .val (.long q3), .second, .val (.int p4), .val (.int p5), .val (.int p6), .val (.int (p1 &&& (3 : Int32))), .val (.ref b_1), .val (.int (0 : Int32)), .val (.ref b_43), .val (.ref b_44), .val (.int i_68), .val (.int z13), .val (.int z14), .unset] [(.int (0 : Int32))]))
            rw [if_neg hv_69] at ez15
            subst ez15
            exact kz
        show own_Go p e below _ (T_66.setTop (mkF m 506 #[.val (.int p1), .val (.int p2), .val (.long q3), .second, .val (.int p4), .val (.int p5), .val (.int p6), .val (.int (p1 &&& (3 : Int32))), .val (.ref b_1), .val (.int (0 : Int32)), .val (.ref b_43), .val (.ref b_44), .val (.int i_68), .val (.int z13), .val (.int z14), .unset] [(.int z15)]))
        refine own_via (fun _ => XS.istore X_66.here hx rfl (hb hby at_506) rfl (l' := #[.val (.int p1), .val (.int p2), .val (.long q3), .second, .val (.int p4), .val (.int p5), .val (.int p6), .val (.int (p1 &&& (3 : Int32))), .val (.ref b_1), .val (.int (0 : Int32)), .val (.ref b_43), .val (.ref b_44), .val (.int i_68), .val (.int z13), .val (.int z14), .val (.int z15)]) rfl) ?_
        show own_Go p e below _ (T_66.setTop (mkF m 508 #[.val (.int p1), .val (.int p2), .val (.long q3), .second, .val (.int p4), .val (.int p5), .val (.int p6), .val (.int (p1 &&& (3 : Int32))), .val (.ref b_1), .val (.int (0 : Int32)), .val (.ref b_43), .val (.ref b_44), .val (.int i_68), .val (.int z13), .val (.int z14), .val (.int z15)] []))
        refine own_via (fun _ => XS.iload X_66.here hx rfl (hb hby at_508) rfl) ?_
        show own_Go p e below _ (T_66.setTop (mkF m 510 #[.val (.int p1), .val (.int p2), .val (.long q3), .second, .val (.int p4), .val (.int p5), .val (.int p6), .val (.int (p1 &&& (3 : Int32))), .val (.ref b_1), .val (.int (0 : Int32)), .val (.ref b_43), .val (.ref b_44), .val (.int i_68), .val (.int z13), .val (.int z14), .val (.int z15)] [(.int i_68)]))
        refine own_via (fun _ => XS.iload X_66.here hx rfl (hb hby at_510) rfl) ?_
        show own_Go p e below _ (T_66.setTop (mkF m 512 #[.val (.int p1), .val (.int p2), .val (.long q3), .second, .val (.int p4), .val (.int p5), .val (.int p6), .val (.int (p1 &&& (3 : Int32))), .val (.ref b_1), .val (.int (0 : Int32)), .val (.ref b_43), .val (.ref b_44), .val (.int i_68), .val (.int z13), .val (.int z14), .val (.int z15)] [(.int z15), (.int i_68)]))
        refine own_via (fun _ => XS.icmpNo X_66.here hx rfl (hb hby at_512) rfl (teq (own_fin q_66_0 (own_no (by simp) ez13) (own_no (by simp) ez14) ez15 : i_68 = z15)).2) ?_
        show own_Go p e below _ (T_66.setTop (mkF m 515 #[.val (.int p1), .val (.int p2), .val (.long q3), .second, .val (.int p4), .val (.int p5), .val (.int p6), .val (.int (p1 &&& (3 : Int32))), .val (.ref b_1), .val (.int (0 : Int32)), .val (.ref b_43), .val (.ref b_44), .val (.int i_68), .val (.int z13), .val (.int z14), .val (.int z15)] []))
        refine own_via (fun _ => XS.iconst X_66.here hx rfl (hb hby at_515)) ?_
        show own_Go p e below _ (T_66.setTop (mkF m 516 #[.val (.int p1), .val (.int p2), .val (.long q3), .second, .val (.int p4), .val (.int p5), .val (.int p6), .val (.int (p1 &&& (3 : Int32))), .val (.ref b_1), .val (.int (0 : Int32)), .val (.ref b_43), .val (.ref b_44), .val (.int i_68), .val (.int z13), .val (.int z14), .val (.int z15)] [(.int (1 : Int32))]))
        refine own_via (fun _ => XS.goto X_66.here hx rfl (pc0 := 516) (pc' := 520) rfl (hb hby at_516) (by decide) (by decide)) ?_
        show own_Go p e below _ (T_66.setTop (mkF m 520 #[.val (.int p1), .val (.int p2), .val (.long q3), .second, .val (.int p4), .val (.int p5), .val (.int p6), .val (.int (p1 &&& (3 : Int32))), .val (.ref b_1), .val (.int (0 : Int32)), .val (.ref b_43), .val (.ref b_44), .val (.int i_68), .val (.int z13), .val (.int z14), .val (.int z15)] [(.int (1 : Int32))]))
        have K_71 : Keep h0 T_66.heap [] := Keep.trans (ws := []) K_65 K_66q all0
        exact own_retvW X_66 hS_66 (Nat.le_refl _) Bd.notSynchronized hx Bd.returns rfl (Or.inl ⟨rfl, (by simp), _, rfl⟩) (hb hby at_520) (by decide) (by decide) ⟨rfl, N_66, K_71⟩
      · show own_Go p e below _ (T_36.setTop (mkF m 228 #[.val (.int p1), .val (.int p2), .val (.long q3), .second, .val (.int p4), .val (.int p5), .val (.int p6), .val (.int (p1 &&& (3 : Int32))), .val (.ref b_1), .val (.int (1 : Int32)), .unset, .unset, .unset, .unset, .unset, .unset] []))
        refine own_via (fun _ => XS.iload X_39.here hx rfl (hb hby at_228) rfl) ?_
        show own_Go p e below _ (T_36.setTop (mkF m 230 #[.val (.int p1), .val (.int p2), .val (.long q3), .second, .val (.int p4), .val (.int p5), .val (.int p6), .val (.int (p1 &&& (3 : Int32))), .val (.ref b_1), .val (.int (1 : Int32)), .unset, .unset, .unset, .unset, .unset, .unset] [(.int (1 : Int32))]))
        refine own_via (fun _ => XS.bipush X_39.here hx rfl (hb hby at_230)) ?_
        show own_Go p e below _ (T_36.setTop (mkF m 232 #[.val (.int p1), .val (.int p2), .val (.long q3), .second, .val (.int p4), .val (.int p5), .val (.int p6), .val (.int (p1 &&& (3 : Int32))), .val (.ref b_1), .val (.int (1 : Int32)), .unset, .unset, .unset, .unset, .unset, .unset] [(.int (7 : Int32)), (.int (1 : Int32))]))
        refine own_via (fun _ => XS.icmpYes X_39.here hx rfl (pc0 := 232) (pc' := 239) rfl (hb hby at_232) rfl (flt ((by decide) : ¬ ((7 : Int32) < (1 : Int32)))).2.2.2 (by decide) (by decide)) ?_
        show own_Go p e below _ (T_36.setTop (mkF m 239 #[.val (.int p1), .val (.int p2), .val (.long q3), .second, .val (.int p4), .val (.int p5), .val (.int p6), .val (.int (p1 &&& (3 : Int32))), .val (.ref b_1), .val (.int (1 : Int32)), .unset, .unset, .unset, .unset, .unset, .unset] []))
        refine own_via (fun _ => XS.iload X_39.here hx rfl (hb hby at_239) rfl) ?_
        show own_Go p e below _ (T_36.setTop (mkF m 241 #[.val (.int p1), .val (.int p2), .val (.long q3), .second, .val (.int p4), .val (.int p5), .val (.int p6), .val (.int (p1 &&& (3 : Int32))), .val (.ref b_1), .val (.int (1 : Int32)), .unset, .unset, .unset, .unset, .unset, .unset] [(.int (1 : Int32))]))
        obtain ⟨T_72, h_72, k_72, X_72, e_72, E_72, A_72, st_72⟩ := newP X_39 hx hZ (own_w hw 0 rfl) e_39 (g := (mkF m 241 #[.val (.int p1), .val (.int p2), .val (.long q3), .second, .val (.int p4), .val (.int p5), .val (.int p6), .val (.int (p1 &&& (3 : Int32))), .val (.ref b_1), .val (.int (1 : Int32)), .unset, .unset, .unset, .unset, .unset, .unset] [(.int (1 : Int32))])) rfl (hb hby at_241) rfl (by decide) (cap := 1) (by decide) (by decide) (by decide) (by decide)
        obtain ⟨b_72, g_72⟩ : ∃ z, z = h_38.size := ⟨_, rfl⟩
        rw [← g_72] at A_72 st_72
        have V_72 : Arv Z h_72 b_72 k_72 .char (1 : Int32) [(.int (0 : Int32))] (.int (0 : Int32)) := (Arv.new A_72 (by decide)).pad (pad_rep [] (.int (0 : Int32)) 1)
        refine own_via st_72 ?_
        show own_Go p e below _ (T_72.setTop (mkF m 243 #[.val (.int p1), .val (.int p2), .val (.long q3), .second, .val (.int p4), .val (.int p5), .val (.int p6), .val (.int (p1 &&& (3 : Int32))), .val (.ref b_1), .val (.int (1 : Int32)), .unset, .unset, .unset, .unset, .unset, .unset] [(.ref b_72)]))
        refine own_via (fun _ => XS.astore X_72.here hx rfl (hb hby at_243) rfl rfl (l' := #[.val (.int p1), .val (.int p2), .val (.long q3), .second, .val (.int p4), .val (.int p5), .val (.int p6), .val (.int (p1 &&& (3 : Int32))), .val (.ref b_1), .val (.int (1 : Int32)), .val (.ref b_72), .unset, .unset, .unset, .unset, .unset]) rfl) ?_
        show own_Go p e below _ (T_72.setTop (mkF m 245 #[.val (.int p1), .val (.int p2), .val (.long q3), .second, .val (.int p4), .val (.int p5), .val (.int p6), .val (.int (p1 &&& (3 : Int32))), .val (.ref b_1), .val (.int (1 : Int32)), .val (.ref b_72), .unset, .unset, .unset, .unset, .unset] []))
        refine own_via (fun _ => XS.iload X_72.here hx rfl (hb hby at_245) rfl) ?_
        show own_Go p e below _ (T_72.setTop (mkF m 247 #[.val (.int p1), .val (.int p2), .val (.long q3), .second, .val (.int p4), .val (.int p5), .val (.int p6), .val (.int (p1 &&& (3 : Int32))), .val (.ref b_1), .val (.int (1 : Int32)), .val (.ref b_72), .unset, .unset, .unset, .unset, .unset] [(.int (1 : Int32))]))
        refine own_via (fun _ => XS.ifNo X_72.here hx rfl (hb hby at_247) rfl ((if0 _ _).trans (tlt ((by decide) : (0 : Int32) < (1 : Int32))).2.2.2)) ?_
        show own_Go p e below _ (T_72.setTop (mkF m 250 #[.val (.int p1), .val (.int p2), .val (.long q3), .second, .val (.int p4), .val (.int p5), .val (.int p6), .val (.int (p1 &&& (3 : Int32))), .val (.ref b_1), .val (.int (1 : Int32)), .val (.ref b_72), .unset, .unset, .unset, .unset, .unset] []))
        refine own_via (fun _ => XS.aload X_72.here hx rfl (hb hby at_250) rfl rfl) ?_
        show own_Go p e below _ (T_72.setTop (mkF m 252 #[.val (.int p1), .val (.int p2), .val (.long q3), .second, .val (.int p4), .val (.int p5), .val (.int p6), .val (.int (p1 &&& (3 : Int32))), .val (.ref b_1), .val (.int (1 : Int32)), .val (.ref b_72), .unset, .unset, .unset, .unset, .unset] [(.ref b_72)]))
        refine own_via (fun _ => XS.iconst X_72.here hx rfl (hb hby at_252)) ?_
        show own_Go p e below _ (T_72.setTop (mkF m 253 #[.val (.int p1), .val (.int p2), .val (.long q3), .second, .val (.int p4), .val (.int p5), .val (.int p6), .val (.int (p1 &&& (3 : Int32))), .val (.ref b_1), .val (.int (1 : Int32)), .val (.ref b_72), .unset, .unset, .unset, .unset, .unset] [(.int (0 : Int32)), (.ref b_72)]))
        refine own_via (fun _ => XS.aload X_72.here hx rfl (hb hby at_253) rfl rfl) ?_
        show own_Go p e below _ (T_72.setTop (mkF m 255 #[.val (.int p1), .val (.int p2), .val (.long q3), .second, .val (.int p4), .val (.int p5), .val (.int p6), .val (.int (p1 &&& (3 : Int32))), .val (.ref b_1), .val (.int (1 : Int32)), .val (.ref b_72), .unset, .unset, .unset, .unset, .unset] [(.ref b_1), (.int (0 : Int32)), (.ref b_72)]))
        refine own_via (fun _ => XS.iconst X_72.here hx rfl (hb hby at_255)) ?_
        show own_Go p e below _ (T_72.setTop (mkF m 256 #[.val (.int p1), .val (.int p2), .val (.long q3), .second, .val (.int p4), .val (.int p5), .val (.int p6), .val (.int (p1 &&& (3 : Int32))), .val (.ref b_1), .val (.int (1 : Int32)), .val (.ref b_72), .unset, .unset, .unset, .unset, .unset] [(.int (0 : Int32)), (.ref b_1), (.int (0 : Int32)), (.ref b_72)]))
        have K_73 : Keep h_38 h_72 [] := (Keep.refl h_38 []).ext E_72
        obtain ⟨cl_74, Ar_74, q_74, S_74, M_74, H_74, G_74⟩ := (id (VE.keep K_73 nin0))
        have in_74 : ¬ ((0 : Int32) < 0 ∨ cl_74.slots.size ≤ ((0 : Int32)).toNatClampNeg) := inb_of S_74 ⟨by decide, by decide⟩
        refine own_via (X_72.caload hx (j := (0 : Int32)) (v := (.int e0)) (by rw [e_72]; exact Ar_74.1) (State.isArrayOf_alike hZ.alike Ar_74.2.1) Ar_74.2.2 in_74 (Has.at H_74 in_74 rfl) (g := (mkF m 256 #[.val (.int p1), .val (.int p2), .val (.long q3), .second, .val (.int p4), .val (.int p5), .val (.int p6), .val (.int (p1 &&& (3 : Int32))), .val (.ref b_1), .val (.int (1 : Int32)), .val (.ref b_72), .unset, .unset, .unset, .unset, .unset] [(.int (0 : Int32)), (.ref b_1), (.int (0 : Int32)), (.ref b_72)])) rfl rfl (hb hby at_256)) ?_
        show own_Go p e below _ (T_72.setTop (mkF m 257 #[.val (.int p1), .val (.int p2), .val (.long q3), .second, .val (.int p4), .val (.int p5), .val (.int p6), .val (.int (p1 &&& (3 : Int32))), .val (.ref b_1), .val (.int (1 : Int32)), .val (.ref b_72), .unset, .unset, .unset, .unset, .unset] [(.int e0), (.int (0 : Int32)), (.ref b_72)]))
        obtain ⟨cl_75, Ar_75, q_75, S_75, M_75, H_75, G_75⟩ := (id V_72)
        obtain ⟨T_75, h_75, X_75, e_75, W_75, st_75⟩ := stC X_72 hx hZ e_72 Ar_75 (j := (0 : Int32)) (inb_of S_75 ⟨by decide, by decide⟩) (g := (mkF m 257 #[.val (.int p1), .val (.int p2), .val (.long q3), .second, .val (.int p4), .val (.int p5), .val (.int p6), .val (.int (p1 &&& (3 : Int32))), .val (.ref b_1), .val (.int (1 : Int32)), .val (.ref b_72), .unset, .unset, .unset, .unset, .unset] [(.int e0), (.int (0 : Int32)), (.ref b_72)])) rfl rfl (hb hby at_257)
        have V_75 : Arv Z h_75 b_72 k_72 .char (1 : Int32) [(.int (nar .char e0))] (.int (0 : Int32)) := Arv.set Ar_75 q_75 S_75 M_75 H_75 G_75 (fits_nar_char _) W_75 0 rfl (Nat.le_of_ble_eq_true rfl)
        have K_76 : Keep h0 h_28 [] := Keep.wr (ws := []) K_26 W_28 (Or.inr (Nat.le_of_eq g_1.symm))
        have K_77 : Keep h0 h_33 [] := Keep.trans (ws := []) K_76 K_34 (allS (Or.inr (Nat.le_of_eq g_1.symm)) all0)
        have K_78 : Keep h0 h_38 [] := Keep.trans (ws := []) K_77 K_39 (allS (Or.inr (Nat.le_of_eq g_1.symm)) all0)
        have N_75 := Fr.snoc X_75 N_39 (Nat.le_trans Z0 (Nat.le_trans K_78.1 (Nat.le_of_eq g_72.symm)))
        refine own_via st_75 ?_
        show own_Go p e below _ (T_75.setTop (mkF m 258 #[.val (.int p1), .val (.int p2), .val (.long q3), .second, .val (.int p4), .val (.int p5), .val (.int p6), .val (.int (p1 &&& (3 : Int32))), .val (.ref b_1), .val (.int (1 : Int32)), .val (.ref b_72), .unset, .unset, .unset, .unset, .unset] []))
        have V_79 : Arv Z h_75 b_72 k_72 .char (1 : Int32) [(.int e0)] (.int (0 : Int32)) := by have q := V_75; rwa [own_nar he0] at q
        refine own_via (fun _ => XS.iload X_75.here hx rfl (hb hby at_258) rfl) ?_
        show own_Go p e below _ (T_75.setTop (mkF m 260 #[.val (.int p1), .val (.int p2), .val (.long q3), .second, .val (.int p4), .val (.int p5), .val (.int p6), .val (.int (p1 &&& (3 : Int32))), .val (.ref b_1), .val (.int (1 : Int32)), .val (.ref b_72), .unset, .unset, .unset, .unset, .unset] [(.int (1 : Int32))]))
        refine own_via (fun _ => XS.iconst X_75.here hx rfl (hb hby at_260)) ?_
        show own_Go p e below _ (T_75.setTop (mkF m 261 #[.val (.int p1), .val (.int p2), .val (.long q3), .second, .val (.int p4), .val (.int p5), .val (.int p6), .val (.int (p1 &&& (3 : Int32))), .val (.ref b_1), .val (.int (1 : Int32)), .val (.ref b_72), .unset, .unset, .unset, .unset, .unset] [(.int (1 : Int32)), (.int (1 : Int32))]))
        refine own_via (fun _ => XS.icmpYes X_75.here hx rfl (pc0 := 261) (pc' := 272) rfl (hb hby at_261) rfl (flt ((by decide) : ¬ ((1 : Int32) < (1 : Int32)))).2.2.2 (by decide) (by decide)) ?_
        show own_Go p e below _ (T_75.setTop (mkF m 272 #[.val (.int p1), .val (.int p2), .val (.long q3), .second, .val (.int p4), .val (.int p5), .val (.int p6), .val (.int (p1 &&& (3 : Int32))), .val (.ref b_1), .val (.int (1 : Int32)), .val (.ref b_72), .unset, .unset, .unset, .unset, .unset] []))
        refine own_via (fun _ => XS.iload X_75.here hx rfl (hb hby at_272) rfl) ?_
        show own_Go p e below _ (T_75.setTop (mkF m 274 #[.val (.int p1), .val (.int p2), .val (.long q3), .second, .val (.int p4), .val (.int p5), .val (.int p6), .val (.int (p1 &&& (3 : Int32))), .val (.ref b_1), .val (.int (1 : Int32)), .val (.ref b_72), .unset, .unset, .unset, .unset, .unset] [(.int (1 : Int32))]))
        refine own_via (fun _ => XS.iconst X_75.here hx rfl (hb hby at_274)) ?_
        show own_Go p e below _ (T_75.setTop (mkF m 275 #[.val (.int p1), .val (.int p2), .val (.long q3), .second, .val (.int p4), .val (.int p5), .val (.int p6), .val (.int (p1 &&& (3 : Int32))), .val (.ref b_1), .val (.int (1 : Int32)), .val (.ref b_72), .unset, .unset, .unset, .unset, .unset] [(.int (2 : Int32)), (.int (1 : Int32))]))
        refine own_via (fun _ => XS.icmpYes X_75.here hx rfl (pc0 := 275) (pc' := 286) rfl (hb hby at_275) rfl (flt ((by decide) : ¬ ((2 : Int32) < (1 : Int32)))).2.2.2 (by decide) (by decide)) ?_
        show own_Go p e below _ (T_75.setTop (mkF m 286 #[.val (.int p1), .val (.int p2), .val (.long q3), .second, .val (.int p4), .val (.int p5), .val (.int p6), .val (.int (p1 &&& (3 : Int32))), .val (.ref b_1), .val (.int (1 : Int32)), .val (.ref b_72), .unset, .unset, .unset, .unset, .unset] []))
        refine own_via (fun _ => XS.iload X_75.here hx rfl (hb hby at_286) rfl) ?_
        show own_Go p e below _ (T_75.setTop (mkF m 288 #[.val (.int p1), .val (.int p2), .val (.long q3), .second, .val (.int p4), .val (.int p5), .val (.int p6), .val (.int (p1 &&& (3 : Int32))), .val (.ref b_1), .val (.int (1 : Int32)), .val (.ref b_72), .unset, .unset, .unset, .unset, .unset] [(.int (1 : Int32))]))
        refine own_via (fun _ => XS.iconst X_75.here hx rfl (hb hby at_288)) ?_
        show own_Go p e below _ (T_75.setTop (mkF m 289 #[.val (.int p1), .val (.int p2), .val (.long q3), .second, .val (.int p4), .val (.int p5), .val (.int p6), .val (.int (p1 &&& (3 : Int32))), .val (.ref b_1), .val (.int (1 : Int32)), .val (.ref b_72), .unset, .unset, .unset, .unset, .unset] [(.int (3 : Int32)), (.int (1 : Int32))]))
        refine own_via (fun _ => XS.icmpYes X_75.here hx rfl (pc0 := 289) (pc' := 300) rfl (hb hby at_289) rfl (flt ((by decide) : ¬ ((3 : Int32) < (1 : Int32)))).2.2.2 (by decide) (by decide)) ?_
        show own_Go p e below _ (T_75.setTop (mkF m 300 #[.val (.int p1), .val (.int p2), .val (.long q3), .second, .val (.int p4), .val (.int p5), .val (.int p6), .val (.int (p1 &&& (3 : Int32))), .val (.ref b_1), .val (.int (1 : Int32)), .val (.ref b_72), .unset, .unset, .unset, .unset, .unset] []))
        refine own_via (fun _ => XS.iload X_75.here hx rfl (hb hby at_300) rfl) ?_
        show own_Go p e below _ (T_75.setTop (mkF m 302 #[.val (.int p1), .val (.int p2), .val (.long q3), .second, .val (.int p4), .val (.int p5), .val (.int p6), .val (.int (p1 &&& (3 : Int32))), .val (.ref b_1), .val (.int (1 : Int32)), .val (.ref b_72), .unset, .unset, .unset, .unset, .unset] [(.int (1 : Int32))]))
        refine own_via (fun _ => XS.iconst X_75.here hx rfl (hb hby at_302)) ?_
        show own_Go p e below _ (T_75.setTop (mkF m 303 #[.val (.int p1), .val (.int p2), .val (.long q3), .second, .val (.int p4), .val (.int p5), .val (.int p6), .val (.int (p1 &&& (3 : Int32))), .val (.ref b_1), .val (.int (1 : Int32)), .val (.ref b_72), .unset, .unset, .unset, .unset, .unset] [(.int (4 : Int32)), (.int (1 : Int32))]))
        refine own_via (fun _ => XS.icmpYes X_75.here hx rfl (pc0 := 303) (pc' := 314) rfl (hb hby at_303) rfl (flt ((by decide) : ¬ ((4 : Int32) < (1 : Int32)))).2.2.2 (by decide) (by decide)) ?_
        show own_Go p e below _ (T_75.setTop (mkF m 314 #[.val (.int p1), .val (.int p2), .val (.long q3), .second, .val (.int p4), .val (.int p5), .val (.int p6), .val (.int (p1 &&& (3 : Int32))), .val (.ref b_1), .val (.int (1 : Int32)), .val (.ref b_72), .unset, .unset, .unset, .unset, .unset] []))
        refine own_via (fun _ => XS.iload X_75.here hx rfl (hb hby at_314) rfl) ?_
        show own_Go p e below _ (T_75.setTop (mkF m 316 #[.val (.int p1), .val (.int p2), .val (.long q3), .second, .val (.int p4), .val (.int p5), .val (.int p6), .val (.int (p1 &&& (3 : Int32))), .val (.ref b_1), .val (.int (1 : Int32)), .val (.ref b_72), .unset, .unset, .unset, .unset, .unset] [(.int (1 : Int32))]))
        refine own_via (fun _ => XS.iconst X_75.here hx rfl (hb hby at_316)) ?_
        show own_Go p e below _ (T_75.setTop (mkF m 317 #[.val (.int p1), .val (.int p2), .val (.long q3), .second, .val (.int p4), .val (.int p5), .val (.int p6), .val (.int (p1 &&& (3 : Int32))), .val (.ref b_1), .val (.int (1 : Int32)), .val (.ref b_72), .unset, .unset, .unset, .unset, .unset] [(.int (5 : Int32)), (.int (1 : Int32))]))
        refine own_via (fun _ => XS.icmpYes X_75.here hx rfl (pc0 := 317) (pc' := 328) rfl (hb hby at_317) rfl (flt ((by decide) : ¬ ((5 : Int32) < (1 : Int32)))).2.2.2 (by decide) (by decide)) ?_
        show own_Go p e below _ (T_75.setTop (mkF m 328 #[.val (.int p1), .val (.int p2), .val (.long q3), .second, .val (.int p4), .val (.int p5), .val (.int p6), .val (.int (p1 &&& (3 : Int32))), .val (.ref b_1), .val (.int (1 : Int32)), .val (.ref b_72), .unset, .unset, .unset, .unset, .unset] []))
        refine own_via (fun _ => XS.iload X_75.here hx rfl (hb hby at_328) rfl) ?_
        show own_Go p e below _ (T_75.setTop (mkF m 330 #[.val (.int p1), .val (.int p2), .val (.long q3), .second, .val (.int p4), .val (.int p5), .val (.int p6), .val (.int (p1 &&& (3 : Int32))), .val (.ref b_1), .val (.int (1 : Int32)), .val (.ref b_72), .unset, .unset, .unset, .unset, .unset] [(.int (1 : Int32))]))
        refine own_via (fun _ => XS.bipush X_75.here hx rfl (hb hby at_330)) ?_
        show own_Go p e below _ (T_75.setTop (mkF m 332 #[.val (.int p1), .val (.int p2), .val (.long q3), .second, .val (.int p4), .val (.int p5), .val (.int p6), .val (.int (p1 &&& (3 : Int32))), .val (.ref b_1), .val (.int (1 : Int32)), .val (.ref b_72), .unset, .unset, .unset, .unset, .unset] [(.int (6 : Int32)), (.int (1 : Int32))]))
        refine own_via (fun _ => XS.icmpYes X_75.here hx rfl (pc0 := 332) (pc' := 345) rfl (hb hby at_332) rfl (flt ((by decide) : ¬ ((6 : Int32) < (1 : Int32)))).2.2.2 (by decide) (by decide)) ?_
        show own_Go p e below _ (T_75.setTop (mkF m 345 #[.val (.int p1), .val (.int p2), .val (.long q3), .second, .val (.int p4), .val (.int p5), .val (.int p6), .val (.int (p1 &&& (3 : Int32))), .val (.ref b_1), .val (.int (1 : Int32)), .val (.ref b_72), .unset, .unset, .unset, .unset, .unset] []))
        obtain ⟨T_80, h_80, X_80, e_80, E_80, A_80, D_80, -, st_80⟩ := newO X_75 hx hZ hown (own_w hw 6 rfl) (own_w hw 7 rfl) (own_w hw 8 rfl) e_75 (g := (mkF m 345 #[.val (.int p1), .val (.int p2), .val (.long q3), .second, .val (.int p4), .val (.int p5), .val (.int p6), .val (.int (p1 &&& (3 : Int32))), .val (.ref b_1), .val (.int (1 : Int32)), .val (.ref b_72), .unset, .unset, .unset, .unset, .unset] [])) rfl (hb hby at_345) (by decide) (by decide)
        obtain ⟨b_80, g_80⟩ : ∃ z, z = h_75.size := ⟨_, rfl⟩
        rw [← g_80] at A_80 D_80 st_80
        have F_81 : Fld Z h_80 b_80 "com/example/cascadilla/cascadilla/language/Type" "name" "Ljava/lang/String;" .null := D_80 (Or.inr (own_w hw 43 rfl)) (ty := (.object "java/lang/String")) (by decide)
        have F_82 : Fld Z h_80 b_80 "com/example/cascadilla/cascadilla/language/Type" "label" "Lcom/example/cascadilla/cascadilla/language/Label;" .null := D_80 (Or.inr (own_w hw 45 rfl)) (ty := (.object "com/example/cascadilla/cascadilla/language/Label")) (by decide)
        have F_83 : Fld Z h_80 b_80 "com/example/cascadilla/cascadilla/language/Type" "line" "I" (.int (0 : Int32)) := D_80 (Or.inr (own_w hw 47 rfl)) (ty := .int) (by decide)
        refine own_via st_80 ?_
        show own_Go p e below _ (T_80.setTop (mkF m 348 #[.val (.int p1), .val (.int p2), .val (.long q3), .second, .val (.int p4), .val (.int p5), .val (.int p6), .val (.int (p1 &&& (3 : Int32))), .val (.ref b_1), .val (.int (1 : Int32)), .val (.ref b_72), .unset, .unset, .unset, .unset, .unset] [(.ref b_80)]))
        refine own_via (fun _ => XS.dup X_80.here hx rfl (hb hby at_348) rfl rfl) ?_
        show own_Go p e below _ (T_80.setTop (mkF m 349 #[.val (.int p1), .val (.int p2), .val (.long q3), .second, .val (.int p4), .val (.int p5), .val (.int p6), .val (.int (p1 &&& (3 : Int32))), .val (.ref b_1), .val (.int (1 : Int32)), .val (.ref b_72), .unset, .unset, .unset, .unset, .unset] [(.ref b_80), (.ref b_80)]))
        obtain ⟨T_84, h_84, X_84, e_84, E_84, A_84, D_84, -, st_84⟩ := newO X_80 hx hZ hown (own_w hw 9 rfl) (own_w hw 10 rfl) (own_w hw 11 rfl) e_80 (g := (mkF m 349 #[.val (.int p1), .val (.int p2), .val (.long q3), .second, .val (.int p4), .val (.int p5), .val (.int p6), .val (.int (p1 &&& (3 : Int32))), .val (.ref b_1), .val (.int (1 : Int32)), .val (.ref b_72), .unset, .unset, .unset, .unset, .unset] [(.ref b_80), (.ref b_80)])) rfl (hb hby at_349) (by decide) (by decide)
        obtain ⟨b_84, g_84⟩ : ∃ z, z = h_80.size := ⟨_, rfl⟩
        rw [← g_84] at A_84 D_84 st_84
        have F_85 : Fld Z h_84 b_84 "java/lang/String" "coder" "B" (.int (0 : Int32)) := D_84 (Or.inr (own_w hw 35 rfl)) (ty := .byte) (by decide)
        have F_86 : Fld Z h_84 b_84 "java/lang/String" "value" "[B" .null := D_84 (Or.inr (own_w hw 37 rfl)) (ty := (.array .byte)) (by decide)
        refine own_via st_84 ?_
        show own_Go p e below _ (T_84.setTop (mkF m 352 #[.val (.int p1), .val (.int p2), .val (.long q3), .second, .val (.int p4), .val (.int p5), .val (.int p6), .val (.int (p1 &&& (3 : Int32))), .val (.ref b_1), .val (.int (1 : Int32)), .val (.ref b_72), .unset, .unset, .unset, .unset, .unset] [(.ref b_84), (.ref b_80), (.ref b_80)]))
        refine own_via (fun _ => XS.dup X_84.here hx rfl (hb hby at_352) rfl rfl) ?_
        show own_Go p e below _ (T_84.setTop (mkF m 353 #[.val (.int p1), .val (.int p2), .val (.long q3), .second, .val (.int p4), .val (.int p5), .val (.int p6), .val (.int (p1 &&& (3 : Int32))), .val (.ref b_1), .val (.int (1 : Int32)), .val (.ref b_72), .unset, .unset, .unset, .unset, .unset] [(.ref b_84), (.ref b_84), (.ref b_80), (.ref b_80)]))
        refine own_via (fun _ => XS.aload X_84.here hx rfl (hb hby at_353) rfl rfl) ?_
        show own_Go p e below _ (T_84.setTop (mkF m 355 #[.val (.int p1), .val (.int p2), .val (.long q3), .second, .val (.int p4), .val (.int p5), .val (.int p6), .val (.int (p1 &&& (3 : Int32))), .val (.ref b_1), .val (.int (1 : Int32)), .val (.ref b_72), .unset, .unset, .unset, .unset, .unset] [(.ref b_72), (.ref b_84), (.ref b_84), (.ref b_80), (.ref b_80)]))
        have hp : ∀ c ∈ ([e0] : List Int32), ¬ c < 0 ∧ ¬ (255 : Int32) < c := by intro c hc; simp only [List.mem_cons, List.not_mem_nil, or_false] at hc; rcases hc with rfl <;> assumption
        have K_87 : Keep h_75 h_80 [] := (Keep.refl h_75 []).ext E_80
        have K_88 : Keep h_75 h_84 [] := K_87.ext E_84
        have K_89 : Keep h0 h_72 [] := K_78.ext E_72
        have K_90 : Keep h0 h_75 [] := Keep.wr (ws := []) K_89 W_75 (Or.inr (Nat.le_trans K_78.1 (Nat.le_of_eq g_72.symm)))
        have K_91 : Keep h0 h_80 [] := K_90.ext E_80
        have K_92 : Keep h0 h_84 [] := K_91.ext E_84
        obtain ⟨_, _, ⟨T_93, L_93, k_93, n_93⟩, -, X_93, ⟨Lc_93, hQ_93, l_93, y_93, z_93⟩, st_93⟩ := X_84.specialBack hx (y := (⟨"java/lang/String", "<init>", "([C)V"⟩ : MethodName)) rfl hown (mvT hZ (own_w hw 12 rfl)) (mvT hZ (own_w hw 13 rfl)) (mvT hZ (own_w hw 14 rfl)) (by decide) (StrChars.Road.backV (W := 3) hZ (own_hwords hw) (kI := 4) (own_w hw 10 rfl) (cs := ([e0] : List Int32)) (bs := ([e0] : List Int32).map (fun c => c.toInt8.toInt32)) (n := 1) (Nat.le_trans Z0 (Nat.le_trans K_91.1 (Nat.le_of_eq g_84.symm))) (Nat.le_trans Z0 K_92.1) A_84 F_86 F_85 (V_79.keep K_88 nin0) (Scs.ext (O0.keep K_92 all0).2) hcs rfl rfl (by decide) (by decide) hp rfl (by decide) (by decide)) (g := (mkF m 355 #[.val (.int p1), .val (.int p2), .val (.long q3), .second, .val (.int p4), .val (.int p5), .val (.int p6), .val (.int (p1 &&& (3 : Int32))), .val (.ref b_1), .val (.int (1 : Int32)), .val (.ref b_72), .unset, .unset, .unset, .unset, .unset] [(.ref b_72), (.ref b_84), (.ref b_84), (.ref b_80), (.ref b_80)])) rfl (by rw [hml]; rfl) (Steps.refl _) (a := b_84) (argsL := [(.ref b_72)]) (rest := [(.ref b_84), (.ref b_80), (.ref b_80)]) (lenOf pd_6 rfl) rfl (by show 2 * 0 + _ ≤ _; exact Nat.le_of_eq rfl) (hb hby at_355) (fun _ _ => ⟨rfl, e_84, (by decide : 4 + 1 ≤ _), (by decide : 15 + 1 ≤ _)⟩)
        dsimp only [Pt.U, Pt.locs, Pt.cells, Pt.slots] at X_93 l_93 y_93 z_93 st_93 hQ_93
        subst l_93 y_93 z_93
        obtain ⟨rfl, Nq_93, K_93q, EX_93, FC_93, t_93, kb_93, -, ft_93, -, FV_93, FA_93⟩ := hQ_93
        have N_93 := Fr.app N_75 Nq_93
        refine own_via (fun _ k => st_93.trans k) ?_
        show own_Go p e below _ (T_93.setTop (mkF m 358 #[.val (.int p1), .val (.int p2), .val (.long q3), .second, .val (.int p4), .val (.int p5), .val (.int p6), .val (.int (p1 &&& (3 : Int32))), .val (.ref b_1), .val (.int (1 : Int32)), .val (.ref b_72), .unset, .unset, .unset, .unset, .unset] [(.ref b_84), (.ref b_80), (.ref b_80)]))
        have SS : own_Str Z T_93.heap b_84 [e0] := ⟨EX_93, FC_93, ⟨t_93, kb_93, FV_93, FA_93⟩, hp, by simp⟩
        refine own_via (fun _ => XS.aconstNull X_93.here hx rfl (hb hby at_358)) ?_
        show own_Go p e below _ (T_93.setTop (mkF m 359 #[.val (.int p1), .val (.int p2), .val (.long q3), .second, .val (.int p4), .val (.int p5), .val (.int p6), .val (.int (p1 &&& (3 : Int32))), .val (.ref b_1), .val (.int (1 : Int32)), .val (.ref b_72), .unset, .unset, .unset, .unset, .unset] [.null, (.ref b_84), (.ref b_80), (.ref b_80)]))
        refine own_via (fun _ => XS.iload X_93.here hx rfl (hb hby at_359) rfl) ?_
        show own_Go p e below _ (T_93.setTop (mkF m 361 #[.val (.int p1), .val (.int p2), .val (.long q3), .second, .val (.int p4), .val (.int p5), .val (.int p6), .val (.int (p1 &&& (3 : Int32))), .val (.ref b_1), .val (.int (1 : Int32)), .val (.ref b_72), .unset, .unset, .unset, .unset, .unset] [(.int p6), .null, (.ref b_84), (.ref b_80), (.ref b_80)]))
        have K_94 : Keep h_80 h_84 [] := (Keep.refl h_80 []).ext E_84
        have K_95 : Keep h_80 T_93.heap [] := Keep.trans (ws := []) K_94 K_93q (allS (Or.inr (Nat.le_of_eq g_84.symm)) all0)
        have K_96 : Keep h0 T_93.heap [] := Keep.trans (ws := []) K_92 K_93q (allS (Or.inr (Nat.le_trans K_91.1 (Nat.le_of_eq g_84.symm))) all0)
        obtain ⟨_, _, ⟨T_97, L_97, k_97, n_97⟩, -, X_97, ⟨Lc_97, hQ_97, l_97, y_97, z_97⟩, st_97⟩ := X_93.specialBack hx (y := (⟨"com/example/cascadilla/cascadilla/language/Type", "<init>", "(Ljava/lang/String;Lcom/example/cascadilla/cascadilla/language/Label;I)V"⟩ : MethodName)) rfl hown (mvT hZ (own_w hw 38 rfl)) (mvT hZ (own_w hw 39 rfl)) (mvT hZ (own_w hw 40 rfl)) (by decide) (backOf (W := 1) (rmtype l Z a0 hw [] b_80 b_84 p6 T_93.heap n0 (Nat.le_trans Z0 K_96.1) (A_80.keep K_95) (F_81.keep K_95 nin0) (F_82.keep K_95 nin0) (F_83.keep K_95 nin0) (Nat.le_trans Z0 (Nat.le_trans K_90.1 (Nat.le_of_eq g_80.symm)))) hZ (own_w hw 40 rfl) (own_w hw 8 rfl) (by decide) (by decide)) (g := (mkF m 361 #[.val (.int p1), .val (.int p2), .val (.long q3), .second, .val (.int p4), .val (.int p5), .val (.int p6), .val (.int (p1 &&& (3 : Int32))), .val (.ref b_1), .val (.int (1 : Int32)), .val (.ref b_72), .unset, .unset, .unset, .unset, .unset] [(.int p6), .null, (.ref b_84), (.ref b_80), (.ref b_80)])) rfl (by rw [hml]; rfl) (Steps.refl _) (a := b_80) (argsL := [(.ref b_84), .null, (.int p6)]) (rest := [(.ref b_80)]) (lenOf pd_7 rfl) rfl (by show 2 * 0 + _ ≤ _; exact Nat.le_of_eq rfl) (hb hby at_361) (fun _ _ => ⟨rfl, rfl, (by decide : 5 + 0 ≤ _), (by decide : 16 + 0 ≤ _)⟩)
        dsimp only [Pt.U, Pt.locs, Pt.cells, Pt.slots] at X_97 l_97 y_97 z_97 st_97 hQ_97
        subst l_97 y_97 z_97
        obtain ⟨rfl, Nq_97, K_97q, q_97_0⟩ := hQ_97
        have N_97 := Fr.app N_93 Nq_97
        refine own_via (fun _ k => st_97.trans k) ?_
        show own_Go p e below _ (T_97.setTop (mkF m 364 #[.val (.int p1), .val (.int p2), .val (.long q3), .second, .val (.int p4), .val (.int p5), .val (.int p6), .val (.int (p1 &&& (3 : Int32))), .val (.ref b_1), .val (.int (1 : Int32)), .val (.ref b_72), .unset, .unset, .unset, .unset, .unset] [(.ref b_80)]))
        refine own_via (fun _ => XS.astore X_97.here hx rfl (hb hby at_364) rfl rfl (l' := #[.val (.int p1), .val (.int p2), .val (.long q3), .second, .val (.int p4), .val (.int p5), .val (.int p6), .val (.int (p1 &&& (3 : Int32))), .val (.ref b_1), .val (.int (1 : Int32)), .val (.ref b_72), .val (.ref b_80), .unset, .unset, .unset, .unset]) rfl) ?_
        show own_Go p e below _ (T_97.setTop (mkF m 366 #[.val (.int p1), .val (.int p2), .val (.long q3), .second, .val (.int p4), .val (.int p5), .val (.int p6), .val (.int (p1 &&& (3 : Int32))), .val (.ref b_1), .val (.int (1 : Int32)), .val (.ref b_72), .val (.ref b_80), .unset, .unset, .unset, .unset] []))
        refine own_via (fun _ => XS.aload X_97.here hx rfl (hb hby at_366) rfl rfl) ?_
        show own_Go p e below _ (T_97.setTop (mkF m 368 #[.val (.int p1), .val (.int p2), .val (.long q3), .second, .val (.int p4), .val (.int p5), .val (.int p6), .val (.int (p1 &&& (3 : Int32))), .val (.ref b_1), .val (.int (1 : Int32)), .val (.ref b_72), .val (.ref b_80), .unset, .unset, .unset, .unset] [(.ref b_80)]))
        have K_98 : Keep T_93.heap T_97.heap [b_80] := Keep.trans (ws := [b_80]) (own_keep_mono (Keep.refl T_93.heap []) (by simp)) K_97q (allS (Or.inl (List.mem_of_getElem? (i := 0) rfl)) all0)
        have K_99 : Keep h0 T_97.heap [] := Keep.trans (ws := []) K_96 K_97q (allS (Or.inr (Nat.le_trans K_90.1 (Nat.le_of_eq g_80.symm))) all0)
        have K_101 : Keep h_80 T_97.heap [b_80] := Keep.trans (ws := [b_80]) (own_keep_mono K_95 (by simp)) K_97q (allS (Or.inl (List.mem_of_getElem? (i := 0) rfl)) all0)
        obtain ⟨cq_100, kq_100, q_100a, q_100b, q_100c⟩ := isOf hZ rfl (A_80.keep K_101)
        obtain ⟨_, _, ⟨T_100, L_100, k_100, n_100⟩, -, Xc_100, hSc_100, hgc_100, ⟨Lc_100, hQ_100, l_100, y_100, z_100⟩, st_100⟩ := X_97.virtualBackS hx (y := (⟨"com/example/cascadilla/cascadilla/language/Type", "isClass", "()Z"⟩ : MethodName)) (z := (⟨"com/example/cascadilla/cascadilla/language/Type", "isClass", "()Z"⟩ : MethodName)) hown (mvT hZ (own_w hw 48 rfl)) (mvT hZ (own_w hw 49 rfl)) (notFace_of_selects (args := #[]) (mvT hZ (own_w hw 51 rfl))) (mvT hZ (own_w hw 51 rfl)) (mvT hZ (own_w hw 50 rfl)) (by decide) (own_backS (J := fun vm_ => CHv Z consts_1 vm_ T_97.heap) (W := 0) (rmisClass l Z a0 hw [] b_80 b_84 [e0] cs T_97.heap n0 (Nat.le_trans Z0 K_99.1) (O0.keep K_99 all0) Scs hcs q_97_0 (SS.keepO K_98 (own_offS (A_80.keep K_95) (by decide) (own_w hw 7 rfl) own_off0))) hZ (own_w hw 52 rfl) (own_w hw 8 rfl) (by decide) (by decide)) q_100a q_100c (g := (mkF m 368 #[.val (.int p1), .val (.int p2), .val (.long q3), .second, .val (.int p4), .val (.int p5), .val (.int p6), .val (.int (p1 &&& (3 : Int32))), .val (.ref b_1), .val (.int (1 : Int32)), .val (.ref b_72), .val (.ref b_80), .unset, .unset, .unset, .unset] [(.ref b_80)])) rfl (by rw [hml]; rfl) (Steps.refl _) (argsL := []) (rest := []) (lenOf pd_8 rfl) rfl (by show 2 * 0 + _ ≤ _; exact Nat.le_of_eq rfl) (hb hby at_368) (fun _ hW1 => ⟨rfl, rfl, (own_CHstay (J0.keep K_99 all0) hZ (own_EW hw) hW1), (by decide : 5 + 4 ≤ _), (by decide : 16 + 48 ≤ _)⟩)
        dsimp only [Pt.U, Pt.locs, Pt.cells, Pt.slots] at Xc_100 hSc_100 hgc_100 l_100 y_100 z_100 st_100 hQ_100
        subst l_100 y_100 z_100
        obtain ⟨X_100, hS_100, hZ_100, ho_100⟩ := rebS hS0 (Nat.le_trans (Nat.zero_le _) K_99.1) Xc_100 hSc_100 hgc_100 hZ hown
        obtain ⟨i_102, rfl, Nq_100, K_100q, q_100_0, J_100⟩ := hQ_100
        have N_100 := Fr.app N_97 Nq_100
        refine own_via (fun _ k => st_100.trans k) ?_
        show own_Go p e below _ (T_100.setTop (mkF m 371 #[.val (.int p1), .val (.int p2), .val (.long q3), .second, .val (.int p4), .val (.int p5), .val (.int p6), .val (.int (p1 &&& (3 : Int32))), .val (.ref b_1), .val (.int (1 : Int32)), .val (.ref b_72), .val (.ref b_80), .unset, .unset, .unset, .unset] [(.int i_102)]))
        refine own_via (fun _ => XS.istore X_100.here hx rfl (hb hby at_371) rfl (l' := #[.val (.int p1), .val (.int p2), .val (.long q3), .second, .val (.int p4), .val (.int p5), .val (.int p6), .val (.int (p1 &&& (3 : Int32))), .val (.ref b_1), .val (.int (1 : Int32)), .val (.ref b_72), .val (.ref b_80), .val (.int i_102), .unset, .unset, .unset]) rfl) ?_
        show own_Go p e below _ (T_100.setTop (mkF m 373 #[.val (.int p1), .val (.int p2), .val (.long q3), .second, .val (.int p4), .val (.int p5), .val (.int p6), .val (.int (p1 &&& (3 : Int32))), .val (.ref b_1), .val (.int (1 : Int32)), .val (.ref b_72), .val (.ref b_80), .val (.int i_102), .unset, .unset, .unset] []))
        refine own_via (fun _ => XS.iload X_100.here hx rfl (hb hby at_373) rfl) ?_
        show own_Go p e below _ (T_100.setTop (mkF m 375 #[.val (.int p1), .val (.int p2), .val (.long q3), .second, .val (.int p4), .val (.int p5), .val (.int p6), .val (.int (p1 &&& (3 : Int32))), .val (.ref b_1), .val (.int (1 : Int32)), .val (.ref b_72), .val (.ref b_80), .val (.int i_102), .unset, .unset, .unset] [(.int (1 : Int32))]))
        refine own_via (fun _ => XS.iconst X_100.here hx rfl (hb hby at_375)) ?_
        show own_Go p e below _ (T_100.setTop (mkF m 376 #[.val (.int p1), .val (.int p2), .val (.long q3), .second, .val (.int p4), .val (.int p5), .val (.int p6), .val (.int (p1 &&& (3 : Int32))), .val (.ref b_1), .val (.int (1 : Int32)), .val (.ref b_72), .val (.ref b_80), .val (.int i_102), .unset, .unset, .unset] [(.int (3 : Int32)), (.int (1 : Int32))]))
        obtain ⟨z13, ez13⟩ : ∃ z : Int32, z = (0 : Int32) := ⟨_, rfl⟩
        refine own_seq (B := T_100.setTop (mkF m 411 #[.val (.int p1), .val (.int p2), .val (.long q3), .second, .val (.int p4), .val (.int p5), .val (.int p6), .val (.int (p1 &&& (3 : Int32))), .val (.ref b_1), .val (.int (1 : Int32)), .val (.ref b_72), .val (.ref b_80), .val (.int i_102), .unset, .unset, .unset] [(.int z13)])) (fun kz => ?_) ?_
        · refine own_via (fun _ => XS.icmpYes X_100.here hx rfl (pc0 := 376) (pc' := 410) rfl (hb hby at_376) rfl (feq ((by decide) : ¬ ((1 : Int32) = (3 : Int32)))).2 (by decide) (by decide)) ?_
          show own_Go p e below _ (T_100.setTop (mkF m 410 #[.val (.int p1), .val (.int p2), .val (.long q3), .second, .val (.int p4), .val (.int p5), .val (.int p6), .val (.int (p1 &&& (3 : Int32))), .val (.ref b_1), .val (.int (1 : Int32)), .val (.ref b_72), .val (.ref b_80), .val (.int i_102), .unset, .unset, .unset] []))
          refine own_via (fun _ => XS.iconst X_100.here hx rfl (hb hby at_410)) ?_
          show own_Go p e below _ (T_100.setTop (mkF m 411 #[.val (.int p1), .val (.int p2), .val (.long q3), .second, .val (.int p4), .val (.int p5), .val (.int p6), .val (.int (p1 &&& (3 : Int32))), .val (.ref b_1), .val (.int (1 : Int32)), .val (.ref b_72), .val (.ref b_80), .val (.int i_102), .unset, .unset, .unset] [(.int (0 : Int32))]))
          subst ez13
          exact kz
        show own_Go p e below _ (T_100.setTop (mkF m 411 #[.val (.int p1), .val (.int p2), .val (.long q3), .second, .val (.int p4), .val (.int p5), .val (.int p6), .val (.int (p1 &&& (3 : Int32))), .val (.ref b_1), .val (.int (1 : Int32)), .val (.ref b_72), .val (.ref b_80), .val (.int i_102), .unset, .unset, .unset] [(.int z13)]))
        refine own_via (fun _ => XS.istore X_100.here hx rfl (hb hby at_411) rfl (l' := #[.val (.int p1), .val (.int p2), .val (.long q3), .second, .val (.int p4), .val (.int p5), .val (.int p6), .val (.int (p1 &&& (3 : Int32))), .val (.ref b_1), .val (.int (1 : Int32)), .val (.ref b_72), .val (.ref b_80), .val (.int i_102), .val (.int z13), .unset, .unset]) rfl) ?_
        show own_Go p e below _ (T_100.setTop (mkF m 413 #[.val (.int p1), .val (.int p2), .val (.long q3), .second, .val (.int p4), .val (.int p5), .val (.int p6), .val (.int (p1 &&& (3 : Int32))), .val (.ref b_1), .val (.int (1 : Int32)), .val (.ref b_72), .val (.ref b_80), .val (.int i_102), .val (.int z13), .unset, .unset] []))
        refine own_via (fun _ => XS.iload X_100.here hx rfl (hb hby at_413) rfl) ?_
        show own_Go p e below _ (T_100.setTop (mkF m 415 #[.val (.int p1), .val (.int p2), .val (.long q3), .second, .val (.int p4), .val (.int p5), .val (.int p6), .val (.int (p1 &&& (3 : Int32))), .val (.ref b_1), .val (.int (1 : Int32)), .val (.ref b_72), .val (.ref b_80), .val (.int i_102), .val (.int z13), .unset, .unset] [(.int (1 : Int32))]))
        refine own_via (fun _ => XS.bipush X_100.here hx rfl (hb hby at_415)) ?_
        show own_Go p e below _ (T_100.setTop (mkF m 417 #[.val (.int p1), .val (.int p2), .val (.long q3), .second, .val (.int p4), .val (.int p5), .val (.int p6), .val (.int (p1 &&& (3 : Int32))), .val (.ref b_1), .val (.int (1 : Int32)), .val (.ref b_72), .val (.ref b_80), .val (.int i_102), .val (.int z13), .unset, .unset] [(.int (7 : Int32)), (.int (1 : Int32))]))
        obtain ⟨z14, ez14⟩ : ∃ z : Int32, z = (0 : Int32) := ⟨_, rfl⟩
        refine own_seq (B := T_100.setTop (mkF m 489 #[.val (.int p1), .val (.int p2), .val (.long q3), .second, .val (.int p4), .val (.int p5), .val (.int p6), .val (.int (p1 &&& (3 : Int32))), .val (.ref b_1), .val (.int (1 : Int32)), .val (.ref b_72), .val (.ref b_80), .val (.int i_102), .val (.int z13), .unset, .unset] [(.int z14)])) (fun kz => ?_) ?_
        · refine own_via (fun _ => XS.icmpYes X_100.here hx rfl (pc0 := 417) (pc' := 488) rfl (hb hby at_417) rfl (feq ((by decide) : ¬ ((1 : Int32) = (7 : Int32)))).2 (by decide) (by decide)) ?_
          show own_Go p e below _ (T_100.setTop (mkF m 488 #[.val (.int p1), .val (.int p2), .val (.long q3), .second, .val (.int p4), .val (.int p5), .val (.int p6), .val (.int (p1 &&& (3 : Int32))), .val (.ref b_1), .val (.int (1 : Int32)), .val (.ref b_72), .val (.ref b_80), .val (.int i_102), .val (.int z13), .unset, .unset] []))
          refine own_via (fun _ => XS.iconst X_100.here hx rfl (hb hby at_488)) ?_
          show own_Go p e below _ (T_100.setTop (mkF m 489 #[.val (.int p1), .val (.int p2), .val (.long q3), .second, .val (.int p4), .val (.int p5), .val (.int p6), .val (.int (p1 &&& (3 : Int32))), .val (.ref b_1), .val (.int (1 : Int32)), .val (.ref b_72), .val (.ref b_80), .val (.int i_102), .val (.int z13), .unset, .unset] [(.int (0 : Int32))]))
          subst ez14
          exact kz
        show own_Go p e below _ (T_100.setTop (mkF m 489 #[.val (.int p1), .val (.int p2), .val (.long q3), .second, .val (.int p4), .val (.int p5), .val (.int p6), .val (.int (p1 &&& (3 : Int32))), .val (.ref b_1), .val (.int (1 : Int32)), .val (.ref b_72), .val (.ref b_80), .val (.int i_102), .val (.int z13), .unset, .unset] [(.int z14)]))
        refine own_via (fun _ => XS.istore X_100.here hx rfl (hb hby at_489) rfl (l' := #[.val (.int p1), .val (.int p2), .val (.long q3), .second, .val (.int p4), .val (.int p5), .val (.int p6), .val (.int (p1 &&& (3 : Int32))), .val (.ref b_1), .val (.int (1 : Int32)), .val (.ref b_72), .val (.ref b_80), .val (.int i_102), .val (.int z13), .val (.int z14), .unset]) rfl) ?_
        show own_Go p e below _ (T_100.setTop (mkF m 491 #[.val (.int p1), .val (.int p2), .val (.long q3), .second, .val (.int p4), .val (.int p5), .val (.int p6), .val (.int (p1 &&& (3 : Int32))), .val (.ref b_1), .val (.int (1 : Int32)), .val (.ref b_72), .val (.ref b_80), .val (.int i_102), .val (.int z13), .val (.int z14), .unset] []))
        refine own_via (fun _ => XS.iload X_100.here hx rfl (hb hby at_491) rfl) ?_
        show own_Go p e below _ (T_100.setTop (mkF m 493 #[.val (.int p1), .val (.int p2), .val (.long q3), .second, .val (.int p4), .val (.int p5), .val (.int p6), .val (.int (p1 &&& (3 : Int32))), .val (.ref b_1), .val (.int (1 : Int32)), .val (.ref b_72), .val (.ref b_80), .val (.int i_102), .val (.int z13), .val (.int z14), .unset] [(.int z13)]))
        obtain ⟨z15, ez15⟩ : ∃ z : Int32, z = (if z13 = (0 : Int32) then (if z14 = (0 : Int32) then (1 : Int32) else (0 : Int32)) else (0 : Int32)) := ⟨_, rfl⟩
        refine own_seq (B := T_100.setTop (mkF m 506 #[.val (.int p1), .val (.int p2), .val (.long q3), .second, .val (.int p4), .val (.int p5), .val (.int p6), .val (.int (p1 &&& (3 : Int32))), .val (.ref b_1), .val (.int (1 : Int32)), .val (.ref b_72), .val (.ref b_80), .val (.int i_102), .val (.int z13), .val (.int z14), .unset] [(.int z15)])) (fun kz => ?_) ?_
        · by_cases hv_103 : z13 = (0 : Int32)
          · refine own_via (fun _ => XS.ifNo X_100.here hx rfl (hb hby at_493) rfl ((if0 _ _).trans (teq (hv_103 : z13 = (0 : Int32))).2)) ?_
            show own_Go p e below _ (T_100.setTop (mkF m 496 #[.val (.int p1), .val (.int p2), .val (.long q3), .second, .val (.int p4), .val (.int p5), .val (.int p6), .val (.int (p1 &&& (3 : Int32))), .val (.ref b_1), .val (.int (1 : Int32)), .val (.ref b_72), .val (.ref b_80), .val (.int i_102), .val (.int z13), .val (.int z14), .unset] []))
            refine own_via (fun _ => XS.iload X_100.here hx rfl (hb hby at_496) rfl) ?_
            show own_Go p e below _ (T_100.setTop (mkF m 498 #[.val (.int p1), .val (.int p2), .val (.long q3), .second, .val (.int p4), .val (.int p5), .val (.int p6), .val (.int (p1 &&& (3 : Int32))), .val (.ref b_1), .val (.int (1 : Int32)), .val (.ref b_72), .val (.ref b_80), .val (.int i_102), .val (.int z13), .val (.int z14), .unset] [(.int z14)]))
            by_cases hv_104 : z14 = (0 : Int32)
            · refine own_via (fun _ => XS.ifNo X_100.here hx rfl (hb hby at_498) rfl ((if0 _ _).trans (teq (hv_104 : z14 = (0 : Int32))).2)) ?_
              show own_Go p e below _ (T_100.setTop (mkF m 501 #[.val (.int p1), .val (.int p2), .val (.long q3), .second, .val (.int p4), .val (.int p5), .val (.int p6), .val (.int (p1 &&& (3 : Int32))), .val (.ref b_1), .val (.int (1 : Int32)), .val (.ref b_72), .val (.ref b_80), .val (.int i_102), .val (.int z13), .val (.int z14), .unset] []))
              refine own_via (fun _ => XS.iconst X_100.here hx rfl (hb hby at_501)) ?_
              show own_Go p e below _ (T_100.setTop (mkF m 502 #[.val (.int p1), .val (.int p2), .val (.long q3), .second, .val (.int p4), .val (.int p5), .val (.int p6), .val (.int (p1 &&& (3 : Int32))), .val (.ref b_1), .val (.int (1 : Int32)), .val (.ref b_72), .val (.ref b_80), .val (.int i_102), .val (.int z13), .val (.int z14), .unset] [(.int (1 : Int32))]))
              refine own_via (fun _ => XS.goto X_100.here hx rfl (pc0 := 502) (pc' := 506) rfl (hb hby at_502) (by decide) (by decide)) ?_
              show own_Go p e below _ (T_100.setTop (mkF m 506 #[.val (.int p1), .val (.int p2), .val (.long q3), .second, .val (.int p4), .val (.int p5), .val (.int p6), .val (.int (p1 &&& (3 : Int32))), .val (.ref b_1), .val (.int (1 : Int32)), .val (.ref b_72), .val (.ref b_80), .val (.int i_102), .val (.int z13), .val (.int z14), .unset] [(.int (1 : Int32))]))
              rw [if_pos hv_103] at ez15
              rw [if_pos hv_104] at ez15
              subst ez15
              exact kz
            · refine own_via (fun _ => XS.ifYes X_100.here hx rfl (pc0 := 498) (pc' := 505) rfl (hb hby at_498) rfl ((if0 _ _).trans (feq (hv_104 : ¬ (z14 = (0 : Int32)))).2) (by decide) (by decide)) ?_
              show own_Go p e below _ (T_100.setTop (mkF m 505 #[.val (.int p1), .val (.int p2), .val (.long q3), .second, .val (.int p4), .val (.int p5), .val (.int p6), .val (.int (p1 &&& (3 : Int32))), .val (.ref b_1), .val (.int (1 : Int32)), .val (.ref b_72), .val (.ref b_80), .val (.int i_102), .val (.int z13), .val (.int z14), .unset] []))
              refine own_via (fun _ => XS.iconst X_100.here hx rfl (hb hby at_505)) ?_
              show own_Go p e below _ (T_100.setTop (mkF m 506 #[.val (.int p1), .val (.int p2), .val (.long q3), .second, .val (.int p4), .val (.int p5), .val (.int p6), .val (.int (p1 &&& (3 : Int32))), .val (.ref b_1), .val (.int (1 : Int32)), .val (.ref b_72), .val (.ref b_80), .val (.int i_102), .val (.int z13), .val (.int z14), .unset] [(.int (0 : Int32))]))
              rw [if_pos hv_103] at ez15
              rw [if_neg hv_104] at ez15
              subst ez15
              exact kz
          · refine own_via (fun _ => XS.ifYes X_100.here hx rfl (pc0 := 493) (pc' := 505) rfl (hb hby at_493) rfl ((if0 _ _).trans (feq (hv_103 : ¬ (z13 = (0 : Int32)))).2) (by decide) (by decide)) ?_
            show own_Go p e below _ (T_100.setTop (mkF m 505 #[.val (.int p1), .val (.int p2), .val (.long q3), .second, .val (.int p4), .val (.int p5), .val (.int p6), .val (.int (p1 &&& (3 : Int32))), .val (.ref b_1), .val (.int (1 : Int32)), .val (.ref b_72), .val (.ref b_80), .val (.int i_102), .val (.int z13), .val (.int z14), .unset] []))
            refine own_via (fun _ => XS.iconst X_100.here hx rfl (hb hby at_505)) ?_
            show own_Go p e below _ (T_100.setTop (mkF m 506 #[.val (.int p1), .val (.int p2), .val (.long q3), .second, .val (.int p4), .val (.int p5), .val (.int p6), .val (.int (p1 &&& (3 : Int32))), .val (.ref b_1), .val (.int (1 : Int32)), .val (.ref b_72), .val (.ref b_80), .val (.int i_102), .val (.int z13), .val (.int z14), .unset] [(.int (0 : Int32))]))
            rw [if_neg hv_103] at ez15
            subst ez15
            exact kz
        show own_Go p e below _ (T_100.setTop (mkF m 506 #[.val (.int p1), .val (.int p2), .val (.long q3), .second, .val (.int p4), .val (.int p5), .val (.int p6), .val (.int (p1 &&& (3 : Int32))), .val (.ref b_1), .val (.int (1 : Int32)), .val (.ref b_72), .val (.ref b_80), .val (.int i_102), .val (.int z13), .val (.int z14), .unset] [(.int z15)]))
        refine own_via (fun _ => XS.istore X_100.here hx rfl (hb hby at_506) rfl (l' := #[.val (.int p1), .val (.int p2), .val (.long q3), .second, .val (.int p4), .val (.int p5), .val (.int p6), .val (.int (p1 &&& (3 : Int32))), .val (.ref b_1), .val (.int (1 : Int32)), .val (.ref b_72), .val (.ref b_80), .val (.int i_102), .val (.int z13), .val (.int z14), .val (.int z15)]) rfl) ?_
        show own_Go p e below _ (T_100.setTop (mkF m 508 #[.val (.int p1), .val (.int p2), .val (.long q3), .second, .val (.int p4), .val (.int p5), .val (.int p6), .val (.int (p1 &&& (3 : Int32))), .val (.ref b_1), .val (.int (1 : Int32)), .val (.ref b_72), .val (.ref b_80), .val (.int i_102), .val (.int z13), .val (.int z14), .val (.int z15)] []))
        refine own_via (fun _ => XS.iload X_100.here hx rfl (hb hby at_508) rfl) ?_
        show own_Go p e below _ (T_100.setTop (mkF m 510 #[.val (.int p1), .val (.int p2), .val (.long q3), .second, .val (.int p4), .val (.int p5), .val (.int p6), .val (.int (p1 &&& (3 : Int32))), .val (.ref b_1), .val (.int (1 : Int32)), .val (.ref b_72), .val (.ref b_80), .val (.int i_102), .val (.int z13), .val (.int z14), .val (.int z15)] [(.int i_102)]))
        refine own_via (fun _ => XS.iload X_100.here hx rfl (hb hby at_510) rfl) ?_
        show own_Go p e below _ (T_100.setTop (mkF m 512 #[.val (.int p1), .val (.int p2), .val (.long q3), .second, .val (.int p4), .val (.int p5), .val (.int p6), .val (.int (p1 &&& (3 : Int32))), .val (.ref b_1), .val (.int (1 : Int32)), .val (.ref b_72), .val (.ref b_80), .val (.int i_102), .val (.int z13), .val (.int z14), .val (.int z15)] [(.int z15), (.int i_102)]))
        refine own_via (fun _ => XS.icmpNo X_100.here hx rfl (hb hby at_512) rfl (teq (own_fin q_100_0 (own_no (by simp) ez13) (own_no (by simp) ez14) ez15 : i_102 = z15)).2) ?_
        show own_Go p e below _ (T_100.setTop (mkF m 515 #[.val (.int p1), .val (.int p2), .val (.long q3), .second, .val (.int p4), .val (.int p5), .val (.int p6), .val (.int (p1 &&& (3 : Int32))), .val (.ref b_1), .val (.int (1 : Int32)), .val (.ref b_72), .val (.ref b_80), .val (.int i_102), .val (.int z13), .val (.int z14), .val (.int z15)] []))
        refine own_via (fun _ => XS.iconst X_100.here hx rfl (hb hby at_515)) ?_
        show own_Go p e below _ (T_100.setTop (mkF m 516 #[.val (.int p1), .val (.int p2), .val (.long q3), .second, .val (.int p4), .val (.int p5), .val (.int p6), .val (.int (p1 &&& (3 : Int32))), .val (.ref b_1), .val (.int (1 : Int32)), .val (.ref b_72), .val (.ref b_80), .val (.int i_102), .val (.int z13), .val (.int z14), .val (.int z15)] [(.int (1 : Int32))]))
        refine own_via (fun _ => XS.goto X_100.here hx rfl (pc0 := 516) (pc' := 520) rfl (hb hby at_516) (by decide) (by decide)) ?_
        show own_Go p e below _ (T_100.setTop (mkF m 520 #[.val (.int p1), .val (.int p2), .val (.long q3), .second, .val (.int p4), .val (.int p5), .val (.int p6), .val (.int (p1 &&& (3 : Int32))), .val (.ref b_1), .val (.int (1 : Int32)), .val (.ref b_72), .val (.ref b_80), .val (.int i_102), .val (.int z13), .val (.int z14), .val (.int z15)] [(.int (1 : Int32))]))
        have K_105 : Keep h0 T_100.heap [] := Keep.trans (ws := []) K_99 K_100q all0
        exact own_retvW X_100 hS_100 (Nat.le_refl _) Bd.notSynchronized hx Bd.returns rfl (Or.inl ⟨rfl, (by simp), _, rfl⟩) (hb hby at_520) (by decide) (by decide) ⟨rfl, N_100, K_105⟩
      · show own_Go p e below _ (T_36.setTop (mkF m 228 #[.val (.int p1), .val (.int p2), .val (.long q3), .second, .val (.int p4), .val (.int p5), .val (.int p6), .val (.int (p1 &&& (3 : Int32))), .val (.ref b_1), .val (.int (2 : Int32)), .unset, .unset, .unset, .unset, .unset, .unset] []))
        refine own_via (fun _ => XS.iload X_39.here hx rfl (hb hby at_228) rfl) ?_
        show own_Go p e below _ (T_36.setTop (mkF m 230 #[.val (.int p1), .val (.int p2), .val (.long q3), .second, .val (.int p4), .val (.int p5), .val (.int p6), .val (.int (p1 &&& (3 : Int32))), .val (.ref b_1), .val (.int (2 : Int32)), .unset, .unset, .unset, .unset, .unset, .unset] [(.int (2 : Int32))]))
        refine own_via (fun _ => XS.bipush X_39.here hx rfl (hb hby at_230)) ?_
        show own_Go p e below _ (T_36.setTop (mkF m 232 #[.val (.int p1), .val (.int p2), .val (.long q3), .second, .val (.int p4), .val (.int p5), .val (.int p6), .val (.int (p1 &&& (3 : Int32))), .val (.ref b_1), .val (.int (2 : Int32)), .unset, .unset, .unset, .unset, .unset, .unset] [(.int (7 : Int32)), (.int (2 : Int32))]))
        refine own_via (fun _ => XS.icmpYes X_39.here hx rfl (pc0 := 232) (pc' := 239) rfl (hb hby at_232) rfl (flt ((by decide) : ¬ ((7 : Int32) < (2 : Int32)))).2.2.2 (by decide) (by decide)) ?_
        show own_Go p e below _ (T_36.setTop (mkF m 239 #[.val (.int p1), .val (.int p2), .val (.long q3), .second, .val (.int p4), .val (.int p5), .val (.int p6), .val (.int (p1 &&& (3 : Int32))), .val (.ref b_1), .val (.int (2 : Int32)), .unset, .unset, .unset, .unset, .unset, .unset] []))
        refine own_via (fun _ => XS.iload X_39.here hx rfl (hb hby at_239) rfl) ?_
        show own_Go p e below _ (T_36.setTop (mkF m 241 #[.val (.int p1), .val (.int p2), .val (.long q3), .second, .val (.int p4), .val (.int p5), .val (.int p6), .val (.int (p1 &&& (3 : Int32))), .val (.ref b_1), .val (.int (2 : Int32)), .unset, .unset, .unset, .unset, .unset, .unset] [(.int (2 : Int32))]))
        obtain ⟨T_106, h_106, k_106, X_106, e_106, E_106, A_106, st_106⟩ := newP X_39 hx hZ (own_w hw 0 rfl) e_39 (g := (mkF m 241 #[.val (.int p1), .val (.int p2), .val (.long q3), .second, .val (.int p4), .val (.int p5), .val (.int p6), .val (.int (p1 &&& (3 : Int32))), .val (.ref b_1), .val (.int (2 : Int32)), .unset, .unset, .unset, .unset, .unset, .unset] [(.int (2 : Int32))])) rfl (hb hby at_241) rfl (by decide) (cap := 2) (by decide) (by decide) (by decide) (by decide)
        obtain ⟨b_106, g_106⟩ : ∃ z, z = h_38.size := ⟨_, rfl⟩
        rw [← g_106] at A_106 st_106
        have V_106 : Arv Z h_106 b_106 k_106 .char (2 : Int32) [(.int (0 : Int32)), (.int (0 : Int32))] (.int (0 : Int32)) := (Arv.new A_106 (by decide)).pad (pad_rep [] (.int (0 : Int32)) 2)
        refine own_via st_106 ?_
        show own_Go p e below _ (T_106.setTop (mkF m 243 #[.val (.int p1), .val (.int p2), .val (.long q3), .second, .val (.int p4), .val (.int p5), .val (.int p6), .val (.int (p1 &&& (3 : Int32))), .val (.ref b_1), .val (.int (2 : Int32)), .unset, .unset, .unset, .unset, .unset, .unset] [(.ref b_106)]))
        refine own_via (fun _ => XS.astore X_106.here hx rfl (hb hby at_243) rfl rfl (l' := #[.val (.int p1), .val (.int p2), .val (.long q3), .second, .val (.int p4), .val (.int p5), .val (.int p6), .val (.int (p1 &&& (3 : Int32))), .val (.ref b_1), .val (.int (2 : Int32)), .val (.ref b_106), .unset, .unset, .unset, .unset, .unset]) rfl) ?_
        show own_Go p e below _ (T_106.setTop (mkF m 245 #[.val (.int p1), .val (.int p2), .val (.long q3), .second, .val (.int p4), .val (.int p5), .val (.int p6), .val (.int (p1 &&& (3 : Int32))), .val (.ref b_1), .val (.int (2 : Int32)), .val (.ref b_106), .unset, .unset, .unset, .unset, .unset] []))
        refine own_via (fun _ => XS.iload X_106.here hx rfl (hb hby at_245) rfl) ?_
        show own_Go p e below _ (T_106.setTop (mkF m 247 #[.val (.int p1), .val (.int p2), .val (.long q3), .second, .val (.int p4), .val (.int p5), .val (.int p6), .val (.int (p1 &&& (3 : Int32))), .val (.ref b_1), .val (.int (2 : Int32)), .val (.ref b_106), .unset, .unset, .unset, .unset, .unset] [(.int (2 : Int32))]))
        refine own_via (fun _ => XS.ifNo X_106.here hx rfl (hb hby at_247) rfl ((if0 _ _).trans (tlt ((by decide) : (0 : Int32) < (2 : Int32))).2.2.2)) ?_
        show own_Go p e below _ (T_106.setTop (mkF m 250 #[.val (.int p1), .val (.int p2), .val (.long q3), .second, .val (.int p4), .val (.int p5), .val (.int p6), .val (.int (p1 &&& (3 : Int32))), .val (.ref b_1), .val (.int (2 : Int32)), .val (.ref b_106), .unset, .unset, .unset, .unset, .unset] []))
        refine own_via (fun _ => XS.aload X_106.here hx rfl (hb hby at_250) rfl rfl) ?_
        show own_Go p e below _ (T_106.setTop (mkF m 252 #[.val (.int p1), .val (.int p2), .val (.long q3), .second, .val (.int p4), .val (.int p5), .val (.int p6), .val (.int (p1 &&& (3 : Int32))), .val (.ref b_1), .val (.int (2 : Int32)), .val (.ref b_106), .unset, .unset, .unset, .unset, .unset] [(.ref b_106)]))
        refine own_via (fun _ => XS.iconst X_106.here hx rfl (hb hby at_252)) ?_
        show own_Go p e below _ (T_106.setTop (mkF m 253 #[.val (.int p1), .val (.int p2), .val (.long q3), .second, .val (.int p4), .val (.int p5), .val (.int p6), .val (.int (p1 &&& (3 : Int32))), .val (.ref b_1), .val (.int (2 : Int32)), .val (.ref b_106), .unset, .unset, .unset, .unset, .unset] [(.int (0 : Int32)), (.ref b_106)]))
        refine own_via (fun _ => XS.aload X_106.here hx rfl (hb hby at_253) rfl rfl) ?_
        show own_Go p e below _ (T_106.setTop (mkF m 255 #[.val (.int p1), .val (.int p2), .val (.long q3), .second, .val (.int p4), .val (.int p5), .val (.int p6), .val (.int (p1 &&& (3 : Int32))), .val (.ref b_1), .val (.int (2 : Int32)), .val (.ref b_106), .unset, .unset, .unset, .unset, .unset] [(.ref b_1), (.int (0 : Int32)), (.ref b_106)]))
        refine own_via (fun _ => XS.iconst X_106.here hx rfl (hb hby at_255)) ?_
        show own_Go p e below _ (T_106.setTop (mkF m 256 #[.val (.int p1), .val (.int p2), .val (.long q3), .second, .val (.int p4), .val (.int p5), .val (.int p6), .val (.int (p1 &&& (3 : Int32))), .val (.ref b_1), .val (.int (2 : Int32)), .val (.ref b_106), .unset, .unset, .unset, .unset, .unset] [(.int (0 : Int32)), (.ref b_1), (.int (0 : Int32)), (.ref b_106)]))
        have K_107 : Keep h_38 h_106 [] := (Keep.refl h_38 []).ext E_106
        obtain ⟨cl_108, Ar_108, q_108, S_108, M_108, H_108, G_108⟩ := (id (VE.keep K_107 nin0))
        have in_108 : ¬ ((0 : Int32) < 0 ∨ cl_108.slots.size ≤ ((0 : Int32)).toNatClampNeg) := inb_of S_108 ⟨by decide, by decide⟩
        refine own_via (X_106.caload hx (j := (0 : Int32)) (v := (.int e0)) (by rw [e_106]; exact Ar_108.1) (State.isArrayOf_alike hZ.alike Ar_108.2.1) Ar_108.2.2 in_108 (Has.at H_108 in_108 rfl) (g := (mkF m 256 #[.val (.int p1), .val (.int p2), .val (.long q3), .second, .val (.int p4), .val (.int p5), .val (.int p6), .val (.int (p1 &&& (3 : Int32))), .val (.ref b_1), .val (.int (2 : Int32)), .val (.ref b_106), .unset, .unset, .unset, .unset, .unset] [(.int (0 : Int32)), (.ref b_1), (.int (0 : Int32)), (.ref b_106)])) rfl rfl (hb hby at_256)) ?_
        show own_Go p e below _ (T_106.setTop (mkF m 257 #[.val (.int p1), .val (.int p2), .val (.long q3), .second, .val (.int p4), .val (.int p5), .val (.int p6), .val (.int (p1 &&& (3 : Int32))), .val (.ref b_1), .val (.int (2 : Int32)), .val (.ref b_106), .unset, .unset, .unset, .unset, .unset] [(.int e0), (.int (0 : Int32)), (.ref b_106)]))
        obtain ⟨cl_109, Ar_109, q_109, S_109, M_109, H_109, G_109⟩ := (id V_106)
        obtain ⟨T_109, h_109, X_109, e_109, W_109, st_109⟩ := stC X_106 hx hZ e_106 Ar_109 (j := (0 : Int32)) (inb_of S_109 ⟨by decide, by decide⟩) (g := (mkF m 257 #[.val (.int p1), .val (.int p2), .val (.long q3), .second, .val (.int p4), .val (.int p5), .val (.int p6), .val (.int (p1 &&& (3 : Int32))), .val (.ref b_1), .val (.int (2 : Int32)), .val (.ref b_106), .unset, .unset, .unset, .unset, .unset] [(.int e0), (.int (0 : Int32)), (.ref b_106)])) rfl rfl (hb hby at_257)
        have V_109 : Arv Z h_109 b_106 k_106 .char (2 : Int32) [(.int (nar .char e0)), (.int (0 : Int32))] (.int (0 : Int32)) := Arv.set Ar_109 q_109 S_109 M_109 H_109 G_109 (fits_nar_char _) W_109 0 rfl (Nat.le_of_ble_eq_true rfl)
        have K_110 : Keep h0 h_28 [] := Keep.wr (ws := []) K_26 W_28 (Or.inr (Nat.le_of_eq g_1.symm))
        have K_111 : Keep h0 h_33 [] := Keep.trans (ws := []) K_110 K_34 (allS (Or.inr (Nat.le_of_eq g_1.symm)) all0)
        have K_112 : Keep h0 h_38 [] := Keep.trans (ws := []) K_111 K_39 (allS (Or.inr (Nat.le_of_eq g_1.symm)) all0)
        have N_109 := Fr.snoc X_109 N_39 (Nat.le_trans Z0 (Nat.le_trans K_112.1 (Nat.le_of_eq g_106.symm)))
        refine own_via st_109 ?_
        show own_Go p e below _ (T_109.setTop (mkF m 258 #[.val (.int p1), .val (.int p2), .val (.long q3), .second, .val (.int p4), .val (.int p5), .val (.int p6), .val (.int (p1 &&& (3 : Int32))), .val (.ref b_1), .val (.int (2 : Int32)), .val (.ref b_106), .unset, .unset, .unset, .unset, .unset] []))
        have V_113 : Arv Z h_109 b_106 k_106 .char (2 : Int32) [(.int e0), (.int (0 : Int32))] (.int (0 : Int32)) := by have q := V_109; rwa [own_nar he0] at q
        refine own_via (fun _ => XS.iload X_109.here hx rfl (hb hby at_258) rfl) ?_
        show own_Go p e below _ (T_109.setTop (mkF m 260 #[.val (.int p1), .val (.int p2), .val (.long q3), .second, .val (.int p4), .val (.int p5), .val (.int p6), .val (.int (p1 &&& (3 : Int32))), .val (.ref b_1), .val (.int (2 : Int32)), .val (.ref b_106), .unset, .unset, .unset, .unset, .unset] [(.int (2 : Int32))]))
        refine own_via (fun _ => XS.iconst X_109.here hx rfl (hb hby at_260)) ?_
        show own_Go p e below _ (T_109.setTop (mkF m 261 #[.val (.int p1), .val (.int p2), .val (.long q3), .second, .val (.int p4), .val (.int p5), .val (.int p6), .val (.int (p1 &&& (3 : Int32))), .val (.ref b_1), .val (.int (2 : Int32)), .val (.ref b_106), .unset, .unset, .unset, .unset, .unset] [(.int (1 : Int32)), (.int (2 : Int32))]))
        refine own_via (fun _ => XS.icmpNo X_109.here hx rfl (hb hby at_261) rfl (tlt ((by decide) : (1 : Int32) < (2 : Int32))).2.2.2) ?_
        show own_Go p e below _ (T_109.setTop (mkF m 264 #[.val (.int p1), .val (.int p2), .val (.long q3), .second, .val (.int p4), .val (.int p5), .val (.int p6), .val (.int (p1 &&& (3 : Int32))), .val (.ref b_1), .val (.int (2 : Int32)), .val (.ref b_106), .unset, .unset, .unset, .unset, .unset] []))
        refine own_via (fun _ => XS.aload X_109.here hx rfl (hb hby at_264) rfl rfl) ?_
        show own_Go p e below _ (T_109.setTop (mkF m 266 #[.val (.int p1), .val (.int p2), .val (.long q3), .second, .val (.int p4), .val (.int p5), .val (.int p6), .val (.int (p1 &&& (3 : Int32))), .val (.ref b_1), .val (.int (2 : Int32)), .val (.ref b_106), .unset, .unset, .unset, .unset, .unset] [(.ref b_106)]))
        refine own_via (fun _ => XS.iconst X_109.here hx rfl (hb hby at_266)) ?_
        show own_Go p e below _ (T_109.setTop (mkF m 267 #[.val (.int p1), .val (.int p2), .val (.long q3), .second, .val (.int p4), .val (.int p5), .val (.int p6), .val (.int (p1 &&& (3 : Int32))), .val (.ref b_1), .val (.int (2 : Int32)), .val (.ref b_106), .unset, .unset, .unset, .unset, .unset] [(.int (1 : Int32)), (.ref b_106)]))
        refine own_via (fun _ => XS.aload X_109.here hx rfl (hb hby at_267) rfl rfl) ?_
        show own_Go p e below _ (T_109.setTop (mkF m 269 #[.val (.int p1), .val (.int p2), .val (.long q3), .second, .val (.int p4), .val (.int p5), .val (.int p6), .val (.int (p1 &&& (3 : Int32))), .val (.ref b_1), .val (.int (2 : Int32)), .val (.ref b_106), .unset, .unset, .unset, .unset, .unset] [(.ref b_1), (.int (1 : Int32)), (.ref b_106)]))
        refine own_via (fun _ => XS.iconst X_109.here hx rfl (hb hby at_269)) ?_
        show own_Go p e below _ (T_109.setTop (mkF m 270 #[.val (.int p1), .val (.int p2), .val (.long q3), .second, .val (.int p4), .val (.int p5), .val (.int p6), .val (.int (p1 &&& (3 : Int32))), .val (.ref b_1), .val (.int (2 : Int32)), .val (.ref b_106), .unset, .unset, .unset, .unset, .unset] [(.int (1 : Int32)), (.ref b_1), (.int (1 : Int32)), (.ref b_106)]))
        have K_114 : Keep h_38 h_109 [] := Keep.wr (ws := []) K_107 W_109 (Or.inr (Nat.le_of_eq g_106.symm))
        obtain ⟨cl_115, Ar_115, q_115, S_115, M_115, H_115, G_115⟩ := (id (VE.keep K_114 nin0))
        have in_115 : ¬ ((1 : Int32) < 0 ∨ cl_115.slots.size ≤ ((1 : Int32)).toNatClampNeg) := inb_of S_115 ⟨by decide, by decide⟩
        refine own_via (X_109.caload hx (j := (1 : Int32)) (v := (.int e1)) (by rw [e_109]; exact Ar_115.1) (State.isArrayOf_alike hZ.alike Ar_115.2.1) Ar_115.2.2 in_115 (Has.at H_115 in_115 rfl) (g := (mkF m 270 #[.val (.int p1), .val (.int p2), .val (.long q3), .second, .val (.int p4), .val (.int p5), .val (.int p6), .val (.int (p1 &&& (3 : Int32))), .val (.ref b_1), .val (.int (2 : Int32)), .val (.ref b_106), .unset, .unset, .unset, .unset, .unset] [(.int (1 : Int32)), (.ref b_1), (.int (1 : Int32)), (.ref b_106)])) rfl rfl (hb hby at_270)) ?_
        show own_Go p e below _ (T_109.setTop (mkF m 271 #[.val (.int p1), .val (.int p2), .val (.long q3), .second, .val (.int p4), .val (.int p5), .val (.int p6), .val (.int (p1 &&& (3 : Int32))), .val (.ref b_1), .val (.int (2 : Int32)), .val (.ref b_106), .unset, .unset, .unset, .unset, .unset] [(.int e1), (.int (1 : Int32)), (.ref b_106)]))
        obtain ⟨cl_116, Ar_116, q_116, S_116, M_116, H_116, G_116⟩ := (id V_113)
        obtain ⟨T_116, h_116, X_116, e_116, W_116, st_116⟩ := stC X_109 hx hZ e_109 Ar_116 (j := (1 : Int32)) (inb_of S_116 ⟨by decide, by decide⟩) (g := (mkF m 271 #[.val (.int p1), .val (.int p2), .val (.long q3), .second, .val (.int p4), .val (.int p5), .val (.int p6), .val (.int (p1 &&& (3 : Int32))), .val (.ref b_1), .val (.int (2 : Int32)), .val (.ref b_106), .unset, .unset, .unset, .unset, .unset] [(.int e1), (.int (1 : Int32)), (.ref b_106)])) rfl rfl (hb hby at_271)
        have V_116 : Arv Z h_116 b_106 k_106 .char (2 : Int32) [(.int e0), (.int (nar .char e1))] (.int (0 : Int32)) := Arv.set Ar_116 q_116 S_116 M_116 H_116 G_116 (fits_nar_char _) W_116 1 rfl (Nat.le_of_ble_eq_true rfl)
        have N_116 := Fr.snoc X_116 N_109 (Nat.le_trans Z0 (Nat.le_trans K_112.1 (Nat.le_of_eq g_106.symm)))
        refine own_via st_116 ?_
        show own_Go p e below _ (T_116.setTop (mkF m 272 #[.val (.int p1), .val (.int p2), .val (.long q3), .second, .val (.int p4), .val (.int p5), .val (.int p6), .val (.int (p1 &&& (3 : Int32))), .val (.ref b_1), .val (.int (2 : Int32)), .val (.ref b_106), .unset, .unset, .unset, .unset, .unset] []))
        have V_117 : Arv Z h_116 b_106 k_106 .char (2 : Int32) [(.int e0), (.int e1)] (.int (0 : Int32)) := by have q := V_116; rwa [own_nar he1] at q
        refine own_via (fun _ => XS.iload X_116.here hx rfl (hb hby at_272) rfl) ?_
        show own_Go p e below _ (T_116.setTop (mkF m 274 #[.val (.int p1), .val (.int p2), .val (.long q3), .second, .val (.int p4), .val (.int p5), .val (.int p6), .val (.int (p1 &&& (3 : Int32))), .val (.ref b_1), .val (.int (2 : Int32)), .val (.ref b_106), .unset, .unset, .unset, .unset, .unset] [(.int (2 : Int32))]))
        refine own_via (fun _ => XS.iconst X_116.here hx rfl (hb hby at_274)) ?_
        show own_Go p e below _ (T_116.setTop (mkF m 275 #[.val (.int p1), .val (.int p2), .val (.long q3), .second, .val (.int p4), .val (.int p5), .val (.int p6), .val (.int (p1 &&& (3 : Int32))), .val (.ref b_1), .val (.int (2 : Int32)), .val (.ref b_106), .unset, .unset, .unset, .unset, .unset] [(.int (2 : Int32)), (.int (2 : Int32))]))
        refine own_via (fun _ => XS.icmpYes X_116.here hx rfl (pc0 := 275) (pc' := 286) rfl (hb hby at_275) rfl (flt ((by decide) : ¬ ((2 : Int32) < (2 : Int32)))).2.2.2 (by decide) (by decide)) ?_
        show own_Go p e below _ (T_116.setTop (mkF m 286 #[.val (.int p1), .val (.int p2), .val (.long q3), .second, .val (.int p4), .val (.int p5), .val (.int p6), .val (.int (p1 &&& (3 : Int32))), .val (.ref b_1), .val (.int (2 : Int32)), .val (.ref b_106), .unset, .unset, .unset, .unset, .unset] []))
        refine own_via (fun _ => XS.iload X_116.here hx rfl (hb hby at_286) rfl) ?_
        show own_Go p e below _ (T_116.setTop (mkF m 288 #[.val (.int p1), .val (.int p2), .val (.long q3), .second, .val (.int p4), .val (.int p5), .val (.int p6), .val (.int (p1 &&& (3 : Int32))), .val (.ref b_1), .val (.int (2 : Int32)), .val (.ref b_106), .unset, .unset, .unset, .unset, .unset] [(.int (2 : Int32))]))
        refine own_via (fun _ => XS.iconst X_116.here hx rfl (hb hby at_288)) ?_
        show own_Go p e below _ (T_116.setTop (mkF m 289 #[.val (.int p1), .val (.int p2), .val (.long q3), .second, .val (.int p4), .val (.int p5), .val (.int p6), .val (.int (p1 &&& (3 : Int32))), .val (.ref b_1), .val (.int (2 : Int32)), .val (.ref b_106), .unset, .unset, .unset, .unset, .unset] [(.int (3 : Int32)), (.int (2 : Int32))]))
        refine own_via (fun _ => XS.icmpYes X_116.here hx rfl (pc0 := 289) (pc' := 300) rfl (hb hby at_289) rfl (flt ((by decide) : ¬ ((3 : Int32) < (2 : Int32)))).2.2.2 (by decide) (by decide)) ?_
        show own_Go p e below _ (T_116.setTop (mkF m 300 #[.val (.int p1), .val (.int p2), .val (.long q3), .second, .val (.int p4), .val (.int p5), .val (.int p6), .val (.int (p1 &&& (3 : Int32))), .val (.ref b_1), .val (.int (2 : Int32)), .val (.ref b_106), .unset, .unset, .unset, .unset, .unset] []))
        refine own_via (fun _ => XS.iload X_116.here hx rfl (hb hby at_300) rfl) ?_
        show own_Go p e below _ (T_116.setTop (mkF m 302 #[.val (.int p1), .val (.int p2), .val (.long q3), .second, .val (.int p4), .val (.int p5), .val (.int p6), .val (.int (p1 &&& (3 : Int32))), .val (.ref b_1), .val (.int (2 : Int32)), .val (.ref b_106), .unset, .unset, .unset, .unset, .unset] [(.int (2 : Int32))]))
        refine own_via (fun _ => XS.iconst X_116.here hx rfl (hb hby at_302)) ?_
        show own_Go p e below _ (T_116.setTop (mkF m 303 #[.val (.int p1), .val (.int p2), .val (.long q3), .second, .val (.int p4), .val (.int p5), .val (.int p6), .val (.int (p1 &&& (3 : Int32))), .val (.ref b_1), .val (.int (2 : Int32)), .val (.ref b_106), .unset, .unset, .unset, .unset, .unset] [(.int (4 : Int32)), (.int (2 : Int32))]))
        refine own_via (fun _ => XS.icmpYes X_116.here hx rfl (pc0 := 303) (pc' := 314) rfl (hb hby at_303) rfl (flt ((by decide) : ¬ ((4 : Int32) < (2 : Int32)))).2.2.2 (by decide) (by decide)) ?_
        show own_Go p e below _ (T_116.setTop (mkF m 314 #[.val (.int p1), .val (.int p2), .val (.long q3), .second, .val (.int p4), .val (.int p5), .val (.int p6), .val (.int (p1 &&& (3 : Int32))), .val (.ref b_1), .val (.int (2 : Int32)), .val (.ref b_106), .unset, .unset, .unset, .unset, .unset] []))
        refine own_via (fun _ => XS.iload X_116.here hx rfl (hb hby at_314) rfl) ?_
        show own_Go p e below _ (T_116.setTop (mkF m 316 #[.val (.int p1), .val (.int p2), .val (.long q3), .second, .val (.int p4), .val (.int p5), .val (.int p6), .val (.int (p1 &&& (3 : Int32))), .val (.ref b_1), .val (.int (2 : Int32)), .val (.ref b_106), .unset, .unset, .unset, .unset, .unset] [(.int (2 : Int32))]))
        refine own_via (fun _ => XS.iconst X_116.here hx rfl (hb hby at_316)) ?_
        show own_Go p e below _ (T_116.setTop (mkF m 317 #[.val (.int p1), .val (.int p2), .val (.long q3), .second, .val (.int p4), .val (.int p5), .val (.int p6), .val (.int (p1 &&& (3 : Int32))), .val (.ref b_1), .val (.int (2 : Int32)), .val (.ref b_106), .unset, .unset, .unset, .unset, .unset] [(.int (5 : Int32)), (.int (2 : Int32))]))
        refine own_via (fun _ => XS.icmpYes X_116.here hx rfl (pc0 := 317) (pc' := 328) rfl (hb hby at_317) rfl (flt ((by decide) : ¬ ((5 : Int32) < (2 : Int32)))).2.2.2 (by decide) (by decide)) ?_
        show own_Go p e below _ (T_116.setTop (mkF m 328 #[.val (.int p1), .val (.int p2), .val (.long q3), .second, .val (.int p4), .val (.int p5), .val (.int p6), .val (.int (p1 &&& (3 : Int32))), .val (.ref b_1), .val (.int (2 : Int32)), .val (.ref b_106), .unset, .unset, .unset, .unset, .unset] []))
        refine own_via (fun _ => XS.iload X_116.here hx rfl (hb hby at_328) rfl) ?_
        show own_Go p e below _ (T_116.setTop (mkF m 330 #[.val (.int p1), .val (.int p2), .val (.long q3), .second, .val (.int p4), .val (.int p5), .val (.int p6), .val (.int (p1 &&& (3 : Int32))), .val (.ref b_1), .val (.int (2 : Int32)), .val (.ref b_106), .unset, .unset, .unset, .unset, .unset] [(.int (2 : Int32))]))
        refine own_via (fun _ => XS.bipush X_116.here hx rfl (hb hby at_330)) ?_
        show own_Go p e below _ (T_116.setTop (mkF m 332 #[.val (.int p1), .val (.int p2), .val (.long q3), .second, .val (.int p4), .val (.int p5), .val (.int p6), .val (.int (p1 &&& (3 : Int32))), .val (.ref b_1), .val (.int (2 : Int32)), .val (.ref b_106), .unset, .unset, .unset, .unset, .unset] [(.int (6 : Int32)), (.int (2 : Int32))]))
        refine own_via (fun _ => XS.icmpYes X_116.here hx rfl (pc0 := 332) (pc' := 345) rfl (hb hby at_332) rfl (flt ((by decide) : ¬ ((6 : Int32) < (2 : Int32)))).2.2.2 (by decide) (by decide)) ?_
        show own_Go p e below _ (T_116.setTop (mkF m 345 #[.val (.int p1), .val (.int p2), .val (.long q3), .second, .val (.int p4), .val (.int p5), .val (.int p6), .val (.int (p1 &&& (3 : Int32))), .val (.ref b_1), .val (.int (2 : Int32)), .val (.ref b_106), .unset, .unset, .unset, .unset, .unset] []))
        obtain ⟨T_118, h_118, X_118, e_118, E_118, A_118, D_118, -, st_118⟩ := newO X_116 hx hZ hown (own_w hw 6 rfl) (own_w hw 7 rfl) (own_w hw 8 rfl) e_116 (g := (mkF m 345 #[.val (.int p1), .val (.int p2), .val (.long q3), .second, .val (.int p4), .val (.int p5), .val (.int p6), .val (.int (p1 &&& (3 : Int32))), .val (.ref b_1), .val (.int (2 : Int32)), .val (.ref b_106), .unset, .unset, .unset, .unset, .unset] [])) rfl (hb hby at_345) (by decide) (by decide)
        obtain ⟨b_118, g_118⟩ : ∃ z, z = h_116.size := ⟨_, rfl⟩
        rw [← g_118] at A_118 D_118 st_118
        have F_119 : Fld Z h_118 b_118 "com/example/cascadilla/cascadilla/language/Type" "name" "Ljava/lang/String;" .null := D_118 (Or.inr (own_w hw 43 rfl)) (ty := (.object "java/lang/String")) (by decide)
        have F_120 : Fld Z h_118 b_118 "com/example/cascadilla/cascadilla/language/Type" "label" "Lcom/example/cascadilla/cascadilla/language/Label;" .null := D_118 (Or.inr (own_w hw 45 rfl)) (ty := (.object "com/example/cascadilla/cascadilla/language/Label")) (by decide)
        have F_121 : Fld Z h_118 b_118 "com/example/cascadilla/cascadilla/language/Type" "line" "I" (.int (0 : Int32)) := D_118 (Or.inr (own_w hw 47 rfl)) (ty := .int) (by decide)
        refine own_via st_118 ?_
        show own_Go p e below _ (T_118.setTop (mkF m 348 #[.val (.int p1), .val (.int p2), .val (.long q3), .second, .val (.int p4), .val (.int p5), .val (.int p6), .val (.int (p1 &&& (3 : Int32))), .val (.ref b_1), .val (.int (2 : Int32)), .val (.ref b_106), .unset, .unset, .unset, .unset, .unset] [(.ref b_118)]))
        refine own_via (fun _ => XS.dup X_118.here hx rfl (hb hby at_348) rfl rfl) ?_
        show own_Go p e below _ (T_118.setTop (mkF m 349 #[.val (.int p1), .val (.int p2), .val (.long q3), .second, .val (.int p4), .val (.int p5), .val (.int p6), .val (.int (p1 &&& (3 : Int32))), .val (.ref b_1), .val (.int (2 : Int32)), .val (.ref b_106), .unset, .unset, .unset, .unset, .unset] [(.ref b_118), (.ref b_118)]))
        obtain ⟨T_122, h_122, X_122, e_122, E_122, A_122, D_122, -, st_122⟩ := newO X_118 hx hZ hown (own_w hw 9 rfl) (own_w hw 10 rfl) (own_w hw 11 rfl) e_118 (g := (mkF m 349 #[.val (.int p1), .val (.int p2), .val (.long q3), .second, .val (.int p4), .val (.int p5), .val (.int p6), .val (.int (p1 &&& (3 : Int32))), .val (.ref b_1), .val (.int (2 : Int32)), .val (.ref b_106), .unset, .unset, .unset, .unset, .unset] [(.ref b_118), (.ref b_118)])) rfl (hb hby at_349) (by decide) (by decide)
        obtain ⟨b_122, g_122⟩ : ∃ z, z = h_118.size := ⟨_, rfl⟩
        rw [← g_122] at A_122 D_122 st_122
        have F_123 : Fld Z h_122 b_122 "java/lang/String" "coder" "B" (.int (0 : Int32)) := D_122 (Or.inr (own_w hw 35 rfl)) (ty := .byte) (by decide)
        have F_124 : Fld Z h_122 b_122 "java/lang/String" "value" "[B" .null := D_122 (Or.inr (own_w hw 37 rfl)) (ty := (.array .byte)) (by decide)
        refine own_via st_122 ?_
        show own_Go p e below _ (T_122.setTop (mkF m 352 #[.val (.int p1), .val (.int p2), .val (.long q3), .second, .val (.int p4), .val (.int p5), .val (.int p6), .val (.int (p1 &&& (3 : Int32))), .val (.ref b_1), .val (.int (2 : Int32)), .val (.ref b_106), .unset, .unset, .unset, .unset, .unset] [(.ref b_122), (.ref b_118), (.ref b_118)]))
        refine own_via (fun _ => XS.dup X_122.here hx rfl (hb hby at_352) rfl rfl) ?_
        show own_Go p e below _ (T_122.setTop (mkF m 353 #[.val (.int p1), .val (.int p2), .val (.long q3), .second, .val (.int p4), .val (.int p5), .val (.int p6), .val (.int (p1 &&& (3 : Int32))), .val (.ref b_1), .val (.int (2 : Int32)), .val (.ref b_106), .unset, .unset, .unset, .unset, .unset] [(.ref b_122), (.ref b_122), (.ref b_118), (.ref b_118)]))
        refine own_via (fun _ => XS.aload X_122.here hx rfl (hb hby at_353) rfl rfl) ?_
        show own_Go p e below _ (T_122.setTop (mkF m 355 #[.val (.int p1), .val (.int p2), .val (.long q3), .second, .val (.int p4), .val (.int p5), .val (.int p6), .val (.int (p1 &&& (3 : Int32))), .val (.ref b_1), .val (.int (2 : Int32)), .val (.ref b_106), .unset, .unset, .unset, .unset, .unset] [(.ref b_106), (.ref b_122), (.ref b_122), (.ref b_118), (.ref b_118)]))
        have hp : ∀ c ∈ ([e0, e1] : List Int32), ¬ c < 0 ∧ ¬ (255 : Int32) < c := by intro c hc; simp only [List.mem_cons, List.not_mem_nil, or_false] at hc; rcases hc with rfl | rfl <;> assumption
        have K_125 : Keep h_116 h_118 [] := (Keep.refl h_116 []).ext E_118
        have K_126 : Keep h_116 h_122 [] := K_125.ext E_122
        have K_127 : Keep h0 h_106 [] := K_112.ext E_106
        have K_128 : Keep h0 h_109 [] := Keep.wr (ws := []) K_127 W_109 (Or.inr (Nat.le_trans K_112.1 (Nat.le_of_eq g_106.symm)))
        have K_129 : Keep h0 h_116 [] := Keep.wr (ws := []) K_128 W_116 (Or.inr (Nat.le_trans K_112.1 (Nat.le_of_eq g_106.symm)))
        have K_130 : Keep h0 h_118 [] := K_129.ext E_118
        have K_131 : Keep h0 h_122 [] := K_130.ext E_122
        obtain ⟨_, _, ⟨T_132, L_132, k_132, n_132⟩, -, X_132, ⟨Lc_132, hQ_132, l_132, y_132, z_132⟩, st_132⟩ := X_122.specialBack hx (y := (⟨"java/lang/String", "<init>", "([C)V"⟩ : MethodName)) rfl hown (mvT hZ (own_w hw 12 rfl)) (mvT hZ (own_w hw 13 rfl)) (mvT hZ (own_w hw 14 rfl)) (by decide) (StrChars.Road.backV (W := 3) hZ (own_hwords hw) (kI := 4) (own_w hw 10 rfl) (cs := ([e0, e1] : List Int32)) (bs := ([e0, e1] : List Int32).map (fun c => c.toInt8.toInt32)) (n := 2) (Nat.le_trans Z0 (Nat.le_trans K_130.1 (Nat.le_of_eq g_122.symm))) (Nat.le_trans Z0 K_131.1) A_122 F_124 F_123 (V_117.keep K_126 nin0) (Scs.ext (O0.keep K_131 all0).2) hcs rfl rfl (by decide) (by decide) hp rfl (by decide) (by decide)) (g := (mkF m 355 #[.val (.int p1), .val (.int p2), .val (.long q3), .second, .val (.int p4), .val (.int p5), .val (.int p6), .val (.int (p1 &&& (3 : Int32))), .val (.ref b_1), .val (.int (2 : Int32)), .val (.ref b_106), .unset, .unset, .unset, .unset, .unset] [(.ref b_106), (.ref b_122), (.ref b_122), (.ref b_118), (.ref b_118)])) rfl (by rw [hml]; rfl) (Steps.refl _) (a := b_122) (argsL := [(.ref b_106)]) (rest := [(.ref b_122), (.ref b_118), (.ref b_118)]) (lenOf pd_6 rfl) rfl (by show 2 * 0 + _ ≤ _; exact Nat.le_of_eq rfl) (hb hby at_355) (fun _ _ => ⟨rfl, e_122, (by decide : 4 + 1 ≤ _), (by decide : 16 + 2 ≤ _)⟩)
        dsimp only [Pt.U, Pt.locs, Pt.cells, Pt.slots] at X_132 l_132 y_132 z_132 st_132 hQ_132
        subst l_132 y_132 z_132
        obtain ⟨rfl, Nq_132, K_132q, EX_132, FC_132, t_132, kb_132, -, ft_132, -, FV_132, FA_132⟩ := hQ_132
        have N_132 := Fr.app N_116 Nq_132
        refine own_via (fun _ k => st_132.trans k) ?_
        show own_Go p e below _ (T_132.setTop (mkF m 358 #[.val (.int p1), .val (.int p2), .val (.long q3), .second, .val (.int p4), .val (.int p5), .val (.int p6), .val (.int (p1 &&& (3 : Int32))), .val (.ref b_1), .val (.int (2 : Int32)), .val (.ref b_106), .unset, .unset, .unset, .unset, .unset] [(.ref b_122), (.ref b_118), (.ref b_118)]))
        have SS : own_Str Z T_132.heap b_122 [e0, e1] := ⟨EX_132, FC_132, ⟨t_132, kb_132, FV_132, FA_132⟩, hp, by simp⟩
        refine own_via (fun _ => XS.aconstNull X_132.here hx rfl (hb hby at_358)) ?_
        show own_Go p e below _ (T_132.setTop (mkF m 359 #[.val (.int p1), .val (.int p2), .val (.long q3), .second, .val (.int p4), .val (.int p5), .val (.int p6), .val (.int (p1 &&& (3 : Int32))), .val (.ref b_1), .val (.int (2 : Int32)), .val (.ref b_106), .unset, .unset, .unset, .unset, .unset] [.null, (.ref b_122), (.ref b_118), (.ref b_118)]))
        refine own_via (fun _ => XS.iload X_132.here hx rfl (hb hby at_359) rfl) ?_
        show own_Go p e below _ (T_132.setTop (mkF m 361 #[.val (.int p1), .val (.int p2), .val (.long q3), .second, .val (.int p4), .val (.int p5), .val (.int p6), .val (.int (p1 &&& (3 : Int32))), .val (.ref b_1), .val (.int (2 : Int32)), .val (.ref b_106), .unset, .unset, .unset, .unset, .unset] [(.int p6), .null, (.ref b_122), (.ref b_118), (.ref b_118)]))
        have K_133 : Keep h_118 h_122 [] := (Keep.refl h_118 []).ext E_122
        have K_134 : Keep h_118 T_132.heap [] := Keep.trans (ws := []) K_133 K_132q (allS (Or.inr (Nat.le_of_eq g_122.symm)) all0)
        have K_135 : Keep h0 T_132.heap [] := Keep.trans (ws := []) K_131 K_132q (allS (Or.inr (Nat.le_trans K_130.1 (Nat.le_of_eq g_122.symm))) all0)
        obtain ⟨_, _, ⟨T_136, L_136, k_136, n_136⟩, -, X_136, ⟨Lc_136, hQ_136, l_136, y_136, z_136⟩, st_136⟩ := X_132.specialBack hx (y := (⟨"com/example/cascadilla/cascadilla/language/Type", "<init>", "(Ljava/lang/String;Lcom/example/cascadilla/cascadilla/language/Label;I)V"⟩ : MethodName)) rfl hown (mvT hZ (own_w hw 38 rfl)) (mvT hZ (own_w hw 39 rfl)) (mvT hZ (own_w hw 40 rfl)) (by decide) (backOf (W := 1) (rmtype l Z a0 hw [] b_118 b_122 p6 T_132.heap n0 (Nat.le_trans Z0 K_135.1) (A_118.keep K_134) (F_119.keep K_134 nin0) (F_120.keep K_134 nin0) (F_121.keep K_134 nin0) (Nat.le_trans Z0 (Nat.le_trans K_129.1 (Nat.le_of_eq g_118.symm)))) hZ (own_w hw 40 rfl) (own_w hw 8 rfl) (by decide) (by decide)) (g := (mkF m 361 #[.val (.int p1), .val (.int p2), .val (.long q3), .second, .val (.int p4), .val (.int p5), .val (.int p6), .val (.int (p1 &&& (3 : Int32))), .val (.ref b_1), .val (.int (2 : Int32)), .val (.ref b_106), .unset, .unset, .unset, .unset, .unset] [(.int p6), .null, (.ref b_122), (.ref b_118), (.ref b_118)])) rfl (by rw [hml]; rfl) (Steps.refl _) (a := b_118) (argsL := [(.ref b_122), .null, (.int p6)]) (rest := [(.ref b_118)]) (lenOf pd_7 rfl) rfl (by show 2 * 0 + _ ≤ _; exact Nat.le_of_eq rfl) (hb hby at_361) (fun _ _ => ⟨rfl, rfl, (by decide : 5 + 0 ≤ _), (by decide : 18 + 0 ≤ _)⟩)
        dsimp only [Pt.U, Pt.locs, Pt.cells, Pt.slots] at X_136 l_136 y_136 z_136 st_136 hQ_136
        subst l_136 y_136 z_136
        obtain ⟨rfl, Nq_136, K_136q, q_136_0⟩ := hQ_136
        have N_136 := Fr.app N_132 Nq_136
        refine own_via (fun _ k => st_136.trans k) ?_
        show own_Go p e below _ (T_136.setTop (mkF m 364 #[.val (.int p1), .val (.int p2), .val (.long q3), .second, .val (.int p4), .val (.int p5), .val (.int p6), .val (.int (p1 &&& (3 : Int32))), .val (.ref b_1), .val (.int (2 : Int32)), .val (.ref b_106), .unset, .unset, .unset, .unset, .unset] [(.ref b_118)]))
        refine own_via (fun _ => XS.astore X_136.here hx rfl (hb hby at_364) rfl rfl (l' := #[.val (.int p1), .val (.int p2), .val (.long q3), .second, .val (.int p4), .val (.int p5), .val (.int p6), .val (.int (p1 &&& (3 : Int32))), .val (.ref b_1), .val (.int (2 : Int32)), .val (.ref b_106), .val (.ref b_118), .unset, .unset, .unset, .unset]) rfl) ?_
        show own_Go p e below _ (T_136.setTop (mkF m 366 #[.val (.int p1), .val (.int p2), .val (.long q3), .second, .val (.int p4), .val (.int p5), .val (.int p6), .val (.int (p1 &&& (3 : Int32))), .val (.ref b_1), .val (.int (2 : Int32)), .val (.ref b_106), .val (.ref b_118), .unset, .unset, .unset, .unset] []))
        refine own_via (fun _ => XS.aload X_136.here hx rfl (hb hby at_366) rfl rfl) ?_
        show own_Go p e below _ (T_136.setTop (mkF m 368 #[.val (.int p1), .val (.int p2), .val (.long q3), .second, .val (.int p4), .val (.int p5), .val (.int p6), .val (.int (p1 &&& (3 : Int32))), .val (.ref b_1), .val (.int (2 : Int32)), .val (.ref b_106), .val (.ref b_118), .unset, .unset, .unset, .unset] [(.ref b_118)]))
        have K_137 : Keep T_132.heap T_136.heap [b_118] := Keep.trans (ws := [b_118]) (own_keep_mono (Keep.refl T_132.heap []) (by simp)) K_136q (allS (Or.inl (List.mem_of_getElem? (i := 0) rfl)) all0)
        have K_138 : Keep h0 T_136.heap [] := Keep.trans (ws := []) K_135 K_136q (allS (Or.inr (Nat.le_trans K_129.1 (Nat.le_of_eq g_118.symm))) all0)
        have K_140 : Keep h_118 T_136.heap [b_118] := Keep.trans (ws := [b_118]) (own_keep_mono K_134 (by simp)) K_136q (allS (Or.inl (List.mem_of_getElem? (i := 0) rfl)) all0)
        obtain ⟨cq_139, kq_139, q_139a, q_139b, q_139c⟩ := isOf hZ rfl (A_118.keep K_140)
        obtain ⟨_, _, ⟨T_139, L_139, k_139, n_139⟩, -, Xc_139, hSc_139, hgc_139, ⟨Lc_139, hQ_139, l_139, y_139, z_139⟩, st_139⟩ := X_136.virtualBackS hx (y := (⟨"com/example/cascadilla/cascadilla/language/Type", "isClass", "()Z"⟩ : MethodName)) (z := (⟨"com/example/cascadilla/cascadilla/language/Type", "isClass", "()Z"⟩ : MethodName)) hown (mvT hZ (own_w hw 48 rfl)) (mvT hZ (own_w hw 49 rfl)) (notFace_of_selects (args := #[]) (mvT hZ (own_w hw 51 rfl))) (mvT hZ (own_w hw 51 rfl)) (mvT hZ (own_w hw 50 rfl)) (by decide) (own_backS (J := fun vm_ => CHv Z consts_1 vm_ T_136.heap) (W := 0) (rmisClass l Z a0 hw [] b_118 b_122 [e0, e1] cs T_136.heap n0 (Nat.le_trans Z0 K_138.1) (O0.keep K_138 all0) Scs hcs q_136_0 (SS.keepO K_137 (own_offS (A_118.keep K_134) (by decide) (own_w hw 7 rfl) own_off0))) hZ (own_w hw 52 rfl) (own_w hw 8 rfl) (by decide) (by decide)) q_139a q_139c (g := (mkF m 368 #[.val (.int p1), .val (.int p2), .val (.long q3), .second, .val (.int p4), .val (.int p5), .val (.int p6), .val (.int (p1 &&& (3 : Int32))), .val (.ref b_1), .val (.int (2 : Int32)), .val (.ref b_106), .val (.ref b_118), .unset, .unset, .unset, .unset] [(.ref b_118)])) rfl (by rw [hml]; rfl) (Steps.refl _) (argsL := []) (rest := []) (lenOf pd_8 rfl) rfl (by show 2 * 0 + _ ≤ _; exact Nat.le_of_eq rfl) (hb hby at_368) (fun _ hW1 => ⟨rfl, rfl, (own_CHstay (J0.keep K_138 all0) hZ (own_EW hw) hW1), (by decide : 5 + 4 ≤ _), (by decide : 18 + 48 ≤ _)⟩)
        dsimp only [Pt.U, Pt.locs, Pt.cells, Pt.slots] at Xc_139 hSc_139 hgc_139 l_139 y_139 z_139 st_139 hQ_139
        subst l_139 y_139 z_139
        obtain ⟨X_139, hS_139, hZ_139, ho_139⟩ := rebS hS0 (Nat.le_trans (Nat.zero_le _) K_138.1) Xc_139 hSc_139 hgc_139 hZ hown
        obtain ⟨i_141, rfl, Nq_139, K_139q, q_139_0, J_139⟩ := hQ_139
        have N_139 := Fr.app N_136 Nq_139
        refine own_via (fun _ k => st_139.trans k) ?_
        show own_Go p e below _ (T_139.setTop (mkF m 371 #[.val (.int p1), .val (.int p2), .val (.long q3), .second, .val (.int p4), .val (.int p5), .val (.int p6), .val (.int (p1 &&& (3 : Int32))), .val (.ref b_1), .val (.int (2 : Int32)), .val (.ref b_106), .val (.ref b_118), .unset, .unset, .unset, .unset] [(.int i_141)]))
        refine own_via (fun _ => XS.istore X_139.here hx rfl (hb hby at_371) rfl (l' := #[.val (.int p1), .val (.int p2), .val (.long q3), .second, .val (.int p4), .val (.int p5), .val (.int p6), .val (.int (p1 &&& (3 : Int32))), .val (.ref b_1), .val (.int (2 : Int32)), .val (.ref b_106), .val (.ref b_118), .val (.int i_141), .unset, .unset, .unset]) rfl) ?_
        show own_Go p e below _ (T_139.setTop (mkF m 373 #[.val (.int p1), .val (.int p2), .val (.long q3), .second, .val (.int p4), .val (.int p5), .val (.int p6), .val (.int (p1 &&& (3 : Int32))), .val (.ref b_1), .val (.int (2 : Int32)), .val (.ref b_106), .val (.ref b_118), .val (.int i_141), .unset, .unset, .unset] []))
        refine own_via (fun _ => XS.iload X_139.here hx rfl (hb hby at_373) rfl) ?_
        show own_Go p e below _ (T_139.setTop (mkF m 375 #[.val (.int p1), .val (.int p2), .val (.long q3), .second, .val (.int p4), .val (.int p5), .val (.int p6), .val (.int (p1 &&& (3 : Int32))), .val (.ref b_1), .val (.int (2 : Int32)), .val (.ref b_106), .val (.ref b_118), .val (.int i_141), .unset, .unset, .unset] [(.int (2 : Int32))]))
        refine own_via (fun _ => XS.iconst X_139.here hx rfl (hb hby at_375)) ?_
        show own_Go p e below _ (T_139.setTop (mkF m 376 #[.val (.int p1), .val (.int p2), .val (.long q3), .second, .val (.int p4), .val (.int p5), .val (.int p6), .val (.int (p1 &&& (3 : Int32))), .val (.ref b_1), .val (.int (2 : Int32)), .val (.ref b_106), .val (.ref b_118), .val (.int i_141), .unset, .unset, .unset] [(.int (3 : Int32)), (.int (2 : Int32))]))
        obtain ⟨z13, ez13⟩ : ∃ z : Int32, z = (0 : Int32) := ⟨_, rfl⟩
        refine own_seq (B := T_139.setTop (mkF m 411 #[.val (.int p1), .val (.int p2), .val (.long q3), .second, .val (.int p4), .val (.int p5), .val (.int p6), .val (.int (p1 &&& (3 : Int32))), .val (.ref b_1), .val (.int (2 : Int32)), .val (.ref b_106), .val (.ref b_118), .val (.int i_141), .unset, .unset, .unset] [(.int z13)])) (fun kz => ?_) ?_
        · refine own_via (fun _ => XS.icmpYes X_139.here hx rfl (pc0 := 376) (pc' := 410) rfl (hb hby at_376) rfl (feq ((by decide) : ¬ ((2 : Int32) = (3 : Int32)))).2 (by decide) (by decide)) ?_
          show own_Go p e below _ (T_139.setTop (mkF m 410 #[.val (.int p1), .val (.int p2), .val (.long q3), .second, .val (.int p4), .val (.int p5), .val (.int p6), .val (.int (p1 &&& (3 : Int32))), .val (.ref b_1), .val (.int (2 : Int32)), .val (.ref b_106), .val (.ref b_118), .val (.int i_141), .unset, .unset, .unset] []))
          refine own_via (fun _ => XS.iconst X_139.here hx rfl (hb hby at_410)) ?_
          show own_Go p e below _ (T_139.setTop (mkF m 411 #[.val (.int p1), .val (.int p2), .val (.long q3), .second, .val (.int p4), .val (.int p5), .val (.int p6), .val (.int (p1 &&& (3 : Int32))), .val (.ref b_1), .val (.int (2 : Int32)), .val (.ref b_106), .val (.ref b_118), .val (.int i_141), .unset, .unset, .unset] [(.int (0 : Int32))]))
          subst ez13
          exact kz
        show own_Go p e below _ (T_139.setTop (mkF m 411 #[.val (.int p1), .val (.int p2), .val (.long q3), .second, .val (.int p4), .val (.int p5), .val (.int p6), .val (.int (p1 &&& (3 : Int32))), .val (.ref b_1), .val (.int (2 : Int32)), .val (.ref b_106), .val (.ref b_118), .val (.int i_141), .unset, .unset, .unset] [(.int z13)]))
        refine own_via (fun _ => XS.istore X_139.here hx rfl (hb hby at_411) rfl (l' := #[.val (.int p1), .val (.int p2), .val (.long q3), .second, .val (.int p4), .val (.int p5), .val (.int p6), .val (.int (p1 &&& (3 : Int32))), .val (.ref b_1), .val (.int (2 : Int32)), .val (.ref b_106), .val (.ref b_118), .val (.int i_141), .val (.int z13), .unset, .unset]) rfl) ?_
        show own_Go p e below _ (T_139.setTop (mkF m 413 #[.val (.int p1), .val (.int p2), .val (.long q3), .second, .val (.int p4), .val (.int p5), .val (.int p6), .val (.int (p1 &&& (3 : Int32))), .val (.ref b_1), .val (.int (2 : Int32)), .val (.ref b_106), .val (.ref b_118), .val (.int i_141), .val (.int z13), .unset, .unset] []))
        refine own_via (fun _ => XS.iload X_139.here hx rfl (hb hby at_413) rfl) ?_
        show own_Go p e below _ (T_139.setTop (mkF m 415 #[.val (.int p1), .val (.int p2), .val (.long q3), .second, .val (.int p4), .val (.int p5), .val (.int p6), .val (.int (p1 &&& (3 : Int32))), .val (.ref b_1), .val (.int (2 : Int32)), .val (.ref b_106), .val (.ref b_118), .val (.int i_141), .val (.int z13), .unset, .unset] [(.int (2 : Int32))]))
        refine own_via (fun _ => XS.bipush X_139.here hx rfl (hb hby at_415)) ?_
        show own_Go p e below _ (T_139.setTop (mkF m 417 #[.val (.int p1), .val (.int p2), .val (.long q3), .second, .val (.int p4), .val (.int p5), .val (.int p6), .val (.int (p1 &&& (3 : Int32))), .val (.ref b_1), .val (.int (2 : Int32)), .val (.ref b_106), .val (.ref b_118), .val (.int i_141), .val (.int z13), .unset, .unset] [(.int (7 : Int32)), (.int (2 : Int32))]))
        obtain ⟨z14, ez14⟩ : ∃ z : Int32, z = (0 : Int32) := ⟨_, rfl⟩
        refine own_seq (B := T_139.setTop (mkF m 489 #[.val (.int p1), .val (.int p2), .val (.long q3), .second, .val (.int p4), .val (.int p5), .val (.int p6), .val (.int (p1 &&& (3 : Int32))), .val (.ref b_1), .val (.int (2 : Int32)), .val (.ref b_106), .val (.ref b_118), .val (.int i_141), .val (.int z13), .unset, .unset] [(.int z14)])) (fun kz => ?_) ?_
        · refine own_via (fun _ => XS.icmpYes X_139.here hx rfl (pc0 := 417) (pc' := 488) rfl (hb hby at_417) rfl (feq ((by decide) : ¬ ((2 : Int32) = (7 : Int32)))).2 (by decide) (by decide)) ?_
          show own_Go p e below _ (T_139.setTop (mkF m 488 #[.val (.int p1), .val (.int p2), .val (.long q3), .second, .val (.int p4), .val (.int p5), .val (.int p6), .val (.int (p1 &&& (3 : Int32))), .val (.ref b_1), .val (.int (2 : Int32)), .val (.ref b_106), .val (.ref b_118), .val (.int i_141), .val (.int z13), .unset, .unset] []))
          refine own_via (fun _ => XS.iconst X_139.here hx rfl (hb hby at_488)) ?_
          show own_Go p e below _ (T_139.setTop (mkF m 489 #[.val (.int p1), .val (.int p2), .val (.long q3), .second, .val (.int p4), .val (.int p5), .val (.int p6), .val (.int (p1 &&& (3 : Int32))), .val (.ref b_1), .val (.int (2 : Int32)), .val (.ref b_106), .val (.ref b_118), .val (.int i_141), .val (.int z13), .unset, .unset] [(.int (0 : Int32))]))
          subst ez14
          exact kz
        show own_Go p e below _ (T_139.setTop (mkF m 489 #[.val (.int p1), .val (.int p2), .val (.long q3), .second, .val (.int p4), .val (.int p5), .val (.int p6), .val (.int (p1 &&& (3 : Int32))), .val (.ref b_1), .val (.int (2 : Int32)), .val (.ref b_106), .val (.ref b_118), .val (.int i_141), .val (.int z13), .unset, .unset] [(.int z14)]))
        refine own_via (fun _ => XS.istore X_139.here hx rfl (hb hby at_489) rfl (l' := #[.val (.int p1), .val (.int p2), .val (.long q3), .second, .val (.int p4), .val (.int p5), .val (.int p6), .val (.int (p1 &&& (3 : Int32))), .val (.ref b_1), .val (.int (2 : Int32)), .val (.ref b_106), .val (.ref b_118), .val (.int i_141), .val (.int z13), .val (.int z14), .unset]) rfl) ?_
        show own_Go p e below _ (T_139.setTop (mkF m 491 #[.val (.int p1), .val (.int p2), .val (.long q3), .second, .val (.int p4), .val (.int p5), .val (.int p6), .val (.int (p1 &&& (3 : Int32))), .val (.ref b_1), .val (.int (2 : Int32)), .val (.ref b_106), .val (.ref b_118), .val (.int i_141), .val (.int z13), .val (.int z14), .unset] []))
        refine own_via (fun _ => XS.iload X_139.here hx rfl (hb hby at_491) rfl) ?_
        show own_Go p e below _ (T_139.setTop (mkF m 493 #[.val (.int p1), .val (.int p2), .val (.long q3), .second, .val (.int p4), .val (.int p5), .val (.int p6), .val (.int (p1 &&& (3 : Int32))), .val (.ref b_1), .val (.int (2 : Int32)), .val (.ref b_106), .val (.ref b_118), .val (.int i_141), .val (.int z13), .val (.int z14), .unset] [(.int z13)]))
        obtain ⟨z15, ez15⟩ : ∃ z : Int32, z = (if z13 = (0 : Int32) then (if z14 = (0 : Int32) then (1 : Int32) else (0 : Int32)) else (0 : Int32)) := ⟨_, rfl⟩
        refine own_seq (B := T_139.setTop (mkF m 506 #[.val (.int p1), .val (.int p2), .val (.long q3), .second, .val (.int p4), .val (.int p5), .val (.int p6), .val (.int (p1 &&& (3 : Int32))), .val (.ref b_1), .val (.int (2 : Int32)), .val (.ref b_106), .val (.ref b_118), .val (.int i_141), .val (.int z13), .val (.int z14), .unset] [(.int z15)])) (fun kz => ?_) ?_
        · by_cases hv_142 : z13 = (0 : Int32)
          · refine own_via (fun _ => XS.ifNo X_139.here hx rfl (hb hby at_493) rfl ((if0 _ _).trans (teq (hv_142 : z13 = (0 : Int32))).2)) ?_
            show own_Go p e below _ (T_139.setTop (mkF m 496 #[.val (.int p1), .val (.int p2), .val (.long q3), .second, .val (.int p4), .val (.int p5), .val (.int p6), .val (.int (p1 &&& (3 : Int32))), .val (.ref b_1), .val (.int (2 : Int32)), .val (.ref b_106), .val (.ref b_118), .val (.int i_141), .val (.int z13), .val (.int z14), .unset] []))
            refine own_via (fun _ => XS.iload X_139.here hx rfl (hb hby at_496) rfl) ?_
            show own_Go p e below _ (T_139.setTop (mkF m 498 #[.val (.int p1), .val (.int p2), .val (.long q3), .second, .val (.int p4), .val (.int p5), .val (.int p6), .val (.int (p1 &&& (3 : Int32))), .val (.ref b_1), .val (.int (2 : Int32)), .val (.ref b_106), .val (.ref b_118), .val (.int i_141), .val (.int z13), .val (.int z14), .unset] [(.int z14)]))
            by_cases hv_143 : z14 = (0 : Int32)
            · refine own_via (fun _ => XS.ifNo X_139.here hx rfl (hb hby at_498) rfl ((if0 _ _).trans (teq (hv_143 : z14 = (0 : Int32))).2)) ?_
              show own_Go p e below _ (T_139.setTop (mkF m 501 #[.val (.int p1), .val (.int p2), .val (.long q3), .second, .val (.int p4), .val (.int p5), .val (.int p6), .val (.int (p1 &&& (3 : Int32))), .val (.ref b_1), .val (.int (2 : Int32)), .val (.ref b_106), .val (.ref b_118), .val (.int i_141), .val (.int z13), .val (.int z14), .unset] []))
              refine own_via (fun _ => XS.iconst X_139.here hx rfl (hb hby at_501)) ?_
              show own_Go p e below _ (T_139.setTop (mkF m 502 #[.val (.int p1), .val (.int p2), .val (.long q3), .second, .val (.int p4), .val (.int p5), .val (.int p6), .val (.int (p1 &&& (3 : Int32))), .val (.ref b_1), .val (.int (2 : Int32)), .val (.ref b_106), .val (.ref b_118), .val (.int i_141), .val (.int z13), .val (.int z14), .unset] [(.int (1 : Int32))]))
              refine own_via (fun _ => XS.goto X_139.here hx rfl (pc0 := 502) (pc' := 506) rfl (hb hby at_502) (by decide) (by decide)) ?_
              show own_Go p e below _ (T_139.setTop (mkF m 506 #[.val (.int p1), .val (.int p2), .val (.long q3), .second, .val (.int p4), .val (.int p5), .val (.int p6), .val (.int (p1 &&& (3 : Int32))), .val (.ref b_1), .val (.int (2 : Int32)), .val (.ref b_106), .val (.ref b_118), .val (.int i_141), .val (.int z13), .val (.int z14), .unset] [(.int (1 : Int32))]))
              rw [if_pos hv_142] at ez15
              rw [if_pos hv_143] at ez15
              subst ez15
              exact kz
            · refine own_via (fun _ => XS.ifYes X_139.here hx rfl (pc0 := 498) (pc' := 505) rfl (hb hby at_498) rfl ((if0 _ _).trans (feq (hv_143 : ¬ (z14 = (0 : Int32)))).2) (by decide) (by decide)) ?_
              show own_Go p e below _ (T_139.setTop (mkF m 505 #[.val (.int p1), .val (.int p2), .val (.long q3), .second, .val (.int p4), .val (.int p5), .val (.int p6), .val (.int (p1 &&& (3 : Int32))), .val (.ref b_1), .val (.int (2 : Int32)), .val (.ref b_106), .val (.ref b_118), .val (.int i_141), .val (.int z13), .val (.int z14), .unset] []))
              refine own_via (fun _ => XS.iconst X_139.here hx rfl (hb hby at_505)) ?_
              show own_Go p e below _ (T_139.setTop (mkF m 506 #[.val (.int p1), .val (.int p2), .val (.long q3), .second, .val (.int p4), .val (.int p5), .val (.int p6), .val (.int (p1 &&& (3 : Int32))), .val (.ref b_1), .val (.int (2 : Int32)), .val (.ref b_106), .val (.ref b_118), .val (.int i_141), .val (.int z13), .val (.int z14), .unset] [(.int (0 : Int32))]))
              rw [if_pos hv_142] at ez15
              rw [if_neg hv_143] at ez15
              subst ez15
              exact kz
          · refine own_via (fun _ => XS.ifYes X_139.here hx rfl (pc0 := 493) (pc' := 505) rfl (hb hby at_493) rfl ((if0 _ _).trans (feq (hv_142 : ¬ (z13 = (0 : Int32)))).2) (by decide) (by decide)) ?_
            show own_Go p e below _ (T_139.setTop (mkF m 505 #[.val (.int p1), .val (.int p2), .val (.long q3), .second, .val (.int p4), .val (.int p5), .val (.int p6), .val (.int (p1 &&& (3 : Int32))), .val (.ref b_1), .val (.int (2 : Int32)), .val (.ref b_106), .val (.ref b_118), .val (.int i_141), .val (.int z13), .val (.int z14), .unset] []))
            refine own_via (fun _ => XS.iconst X_139.here hx rfl (hb hby at_505)) ?_
            show own_Go p e below _ (T_139.setTop (mkF m 506 #[.val (.int p1), .val (.int p2), .val (.long q3), .second, .val (.int p4), .val (.int p5), .val (.int p6), .val (.int (p1 &&& (3 : Int32))), .val (.ref b_1), .val (.int (2 : Int32)), .val (.ref b_106), .val (.ref b_118), .val (.int i_141), .val (.int z13), .val (.int z14), .unset] [(.int (0 : Int32))]))
            rw [if_neg hv_142] at ez15
            subst ez15
            exact kz
        show own_Go p e below _ (T_139.setTop (mkF m 506 #[.val (.int p1), .val (.int p2), .val (.long q3), .second, .val (.int p4), .val (.int p5), .val (.int p6), .val (.int (p1 &&& (3 : Int32))), .val (.ref b_1), .val (.int (2 : Int32)), .val (.ref b_106), .val (.ref b_118), .val (.int i_141), .val (.int z13), .val (.int z14), .unset] [(.int z15)]))
        refine own_via (fun _ => XS.istore X_139.here hx rfl (hb hby at_506) rfl (l' := #[.val (.int p1), .val (.int p2), .val (.long q3), .second, .val (.int p4), .val (.int p5), .val (.int p6), .val (.int (p1 &&& (3 : Int32))), .val (.ref b_1), .val (.int (2 : Int32)), .val (.ref b_106), .val (.ref b_118), .val (.int i_141), .val (.int z13), .val (.int z14), .val (.int z15)]) rfl) ?_
        show own_Go p e below _ (T_139.setTop (mkF m 508 #[.val (.int p1), .val (.int p2), .val (.long q3), .second, .val (.int p4), .val (.int p5), .val (.int p6), .val (.int (p1 &&& (3 : Int32))), .val (.ref b_1), .val (.int (2 : Int32)), .val (.ref b_106), .val (.ref b_118), .val (.int i_141), .val (.int z13), .val (.int z14), .val (.int z15)] []))
        refine own_via (fun _ => XS.iload X_139.here hx rfl (hb hby at_508) rfl) ?_
        show own_Go p e below _ (T_139.setTop (mkF m 510 #[.val (.int p1), .val (.int p2), .val (.long q3), .second, .val (.int p4), .val (.int p5), .val (.int p6), .val (.int (p1 &&& (3 : Int32))), .val (.ref b_1), .val (.int (2 : Int32)), .val (.ref b_106), .val (.ref b_118), .val (.int i_141), .val (.int z13), .val (.int z14), .val (.int z15)] [(.int i_141)]))
        refine own_via (fun _ => XS.iload X_139.here hx rfl (hb hby at_510) rfl) ?_
        show own_Go p e below _ (T_139.setTop (mkF m 512 #[.val (.int p1), .val (.int p2), .val (.long q3), .second, .val (.int p4), .val (.int p5), .val (.int p6), .val (.int (p1 &&& (3 : Int32))), .val (.ref b_1), .val (.int (2 : Int32)), .val (.ref b_106), .val (.ref b_118), .val (.int i_141), .val (.int z13), .val (.int z14), .val (.int z15)] [(.int z15), (.int i_141)]))
        refine own_via (fun _ => XS.icmpNo X_139.here hx rfl (hb hby at_512) rfl (teq (own_fin q_139_0 (own_no (by simp) ez13) (own_no (by simp) ez14) ez15 : i_141 = z15)).2) ?_
        show own_Go p e below _ (T_139.setTop (mkF m 515 #[.val (.int p1), .val (.int p2), .val (.long q3), .second, .val (.int p4), .val (.int p5), .val (.int p6), .val (.int (p1 &&& (3 : Int32))), .val (.ref b_1), .val (.int (2 : Int32)), .val (.ref b_106), .val (.ref b_118), .val (.int i_141), .val (.int z13), .val (.int z14), .val (.int z15)] []))
        refine own_via (fun _ => XS.iconst X_139.here hx rfl (hb hby at_515)) ?_
        show own_Go p e below _ (T_139.setTop (mkF m 516 #[.val (.int p1), .val (.int p2), .val (.long q3), .second, .val (.int p4), .val (.int p5), .val (.int p6), .val (.int (p1 &&& (3 : Int32))), .val (.ref b_1), .val (.int (2 : Int32)), .val (.ref b_106), .val (.ref b_118), .val (.int i_141), .val (.int z13), .val (.int z14), .val (.int z15)] [(.int (1 : Int32))]))
        refine own_via (fun _ => XS.goto X_139.here hx rfl (pc0 := 516) (pc' := 520) rfl (hb hby at_516) (by decide) (by decide)) ?_
        show own_Go p e below _ (T_139.setTop (mkF m 520 #[.val (.int p1), .val (.int p2), .val (.long q3), .second, .val (.int p4), .val (.int p5), .val (.int p6), .val (.int (p1 &&& (3 : Int32))), .val (.ref b_1), .val (.int (2 : Int32)), .val (.ref b_106), .val (.ref b_118), .val (.int i_141), .val (.int z13), .val (.int z14), .val (.int z15)] [(.int (1 : Int32))]))
        have K_144 : Keep h0 T_139.heap [] := Keep.trans (ws := []) K_138 K_139q all0
        exact own_retvW X_139 hS_139 (Nat.le_refl _) Bd.notSynchronized hx Bd.returns rfl (Or.inl ⟨rfl, (by simp), _, rfl⟩) (hb hby at_520) (by decide) (by decide) ⟨rfl, N_139, K_144⟩
      · show own_Go p e below _ (T_36.setTop (mkF m 228 #[.val (.int p1), .val (.int p2), .val (.long q3), .second, .val (.int p4), .val (.int p5), .val (.int p6), .val (.int (p1 &&& (3 : Int32))), .val (.ref b_1), .val (.int (3 : Int32)), .unset, .unset, .unset, .unset, .unset, .unset] []))
        refine own_via (fun _ => XS.iload X_39.here hx rfl (hb hby at_228) rfl) ?_
        show own_Go p e below _ (T_36.setTop (mkF m 230 #[.val (.int p1), .val (.int p2), .val (.long q3), .second, .val (.int p4), .val (.int p5), .val (.int p6), .val (.int (p1 &&& (3 : Int32))), .val (.ref b_1), .val (.int (3 : Int32)), .unset, .unset, .unset, .unset, .unset, .unset] [(.int (3 : Int32))]))
        refine own_via (fun _ => XS.bipush X_39.here hx rfl (hb hby at_230)) ?_
        show own_Go p e below _ (T_36.setTop (mkF m 232 #[.val (.int p1), .val (.int p2), .val (.long q3), .second, .val (.int p4), .val (.int p5), .val (.int p6), .val (.int (p1 &&& (3 : Int32))), .val (.ref b_1), .val (.int (3 : Int32)), .unset, .unset, .unset, .unset, .unset, .unset] [(.int (7 : Int32)), (.int (3 : Int32))]))
        refine own_via (fun _ => XS.icmpYes X_39.here hx rfl (pc0 := 232) (pc' := 239) rfl (hb hby at_232) rfl (flt ((by decide) : ¬ ((7 : Int32) < (3 : Int32)))).2.2.2 (by decide) (by decide)) ?_
        show own_Go p e below _ (T_36.setTop (mkF m 239 #[.val (.int p1), .val (.int p2), .val (.long q3), .second, .val (.int p4), .val (.int p5), .val (.int p6), .val (.int (p1 &&& (3 : Int32))), .val (.ref b_1), .val (.int (3 : Int32)), .unset, .unset, .unset, .unset, .unset, .unset] []))
        refine own_via (fun _ => XS.iload X_39.here hx rfl (hb hby at_239) rfl) ?_
        show own_Go p e below _ (T_36.setTop (mkF m 241 #[.val (.int p1), .val (.int p2), .val (.long q3), .second, .val (.int p4), .val (.int p5), .val (.int p6), .val (.int (p1 &&& (3 : Int32))), .val (.ref b_1), .val (.int (3 : Int32)), .unset, .unset, .unset, .unset, .unset, .unset] [(.int (3 : Int32))]))
        obtain ⟨T_145, h_145, k_145, X_145, e_145, E_145, A_145, st_145⟩ := newP X_39 hx hZ (own_w hw 0 rfl) e_39 (g := (mkF m 241 #[.val (.int p1), .val (.int p2), .val (.long q3), .second, .val (.int p4), .val (.int p5), .val (.int p6), .val (.int (p1 &&& (3 : Int32))), .val (.ref b_1), .val (.int (3 : Int32)), .unset, .unset, .unset, .unset, .unset, .unset] [(.int (3 : Int32))])) rfl (hb hby at_241) rfl (by decide) (cap := 3) (by decide) (by decide) (by decide) (by decide)
        obtain ⟨b_145, g_145⟩ : ∃ z, z = h_38.size := ⟨_, rfl⟩
        rw [← g_145] at A_145 st_145
        have V_145 : Arv Z h_145 b_145 k_145 .char (3 : Int32) [(.int (0 : Int32)), (.int (0 : Int32)), (.int (0 : Int32))] (.int (0 : Int32)) := (Arv.new A_145 (by decide)).pad (pad_rep [] (.int (0 : Int32)) 3)
        refine own_via st_145 ?_
        show own_Go p e below _ (T_145.setTop (mkF m 243 #[.val (.int p1), .val (.int p2), .val (.long q3), .second, .val (.int p4), .val (.int p5), .val (.int p6), .val (.int (p1 &&& (3 : Int32))), .val (.ref b_1), .val (.int (3 : Int32)), .unset, .unset, .unset, .unset, .unset, .unset] [(.ref b_145)]))
        refine own_via (fun _ => XS.astore X_145.here hx rfl (hb hby at_243) rfl rfl (l' := #[.val (.int p1), .val (.int p2), .val (.long q3), .second, .val (.int p4), .val (.int p5), .val (.int p6), .val (.int (p1 &&& (3 : Int32))), .val (.ref b_1), .val (.int (3 : Int32)), .val (.ref b_145), .unset, .unset, .unset, .unset, .unset]) rfl) ?_
        show own_Go p e below _ (T_145.setTop (mkF m 245 #[.val (.int p1), .val (.int p2), .val (.long q3), .second, .val (.int p4), .val (.int p5), .val (.int p6), .val (.int (p1 &&& (3 : Int32))), .val (.ref b_1), .val (.int (3 : Int32)), .val (.ref b_145), .unset, .unset, .unset, .unset, .unset] []))
        refine own_via (fun _ => XS.iload X_145.here hx rfl (hb hby at_245) rfl) ?_
        show own_Go p e below _ (T_145.setTop (mkF m 247 #[.val (.int p1), .val (.int p2), .val (.long q3), .second, .val (.int p4), .val (.int p5), .val (.int p6), .val (.int (p1 &&& (3 : Int32))), .val (.ref b_1), .val (.int (3 : Int32)), .val (.ref b_145), .unset, .unset, .unset, .unset, .unset] [(.int (3 : Int32))]))
        refine own_via (fun _ => XS.ifNo X_145.here hx rfl (hb hby at_247) rfl ((if0 _ _).trans (tlt ((by decide) : (0 : Int32) < (3 : Int32))).2.2.2)) ?_
        show own_Go p e below _ (T_145.setTop (mkF m 250 #[.val (.int p1), .val (.int p2), .val (.long q3), .second, .val (.int p4), .val (.int p5), .val (.int p6), .val (.int (p1 &&& (3 : Int32))), .val (.ref b_1), .val (.int (3 : Int32)), .val (.ref b_145), .unset, .unset, .unset, .unset, .unset] []))
        refine own_via (fun _ => XS.aload X_145.here hx rfl (hb hby at_250) rfl rfl) ?_
        show own_Go p e below _ (T_145.setTop (mkF m 252 #[.val (.int p1), .val (.int p2), .val (.long q3), .second, .val (.int p4), .val (.int p5), .val (.int p6), .val (.int (p1 &&& (3 : Int32))), .val (.ref b_1), .val (.int (3 : Int32)), .val (.ref b_145), .unset, .unset, .unset, .unset, .unset] [(.ref b_145)]))
        refine own_via (fun _ => XS.iconst X_145.here hx rfl (hb hby at_252)) ?_
        show own_Go p e below _ (T_145.setTop (mkF m 253 #[.val (.int p1), .val (.int p2), .val (.long q3), .second, .val (.int p4), .val (.int p5), .val (.int p6), .val (.int (p1 &&& (3 : Int32))), .val (.ref b_1), .val (.int (3 : Int32)), .val (.ref b_145), .unset, .unset, .unset, .unset, .unset] [(.int (0 : Int32)), (.ref b_145)]))
        refine own_via (fun _ => XS.aload X_145.here hx rfl (hb hby at_253) rfl rfl) ?_
        show own_Go p e below _ (T_145.setTop (mkF m 255 #[.val (.int p1), .val (.int p2), .val (.long q3), .second, .val (.int p4), .val (.int p5), .val (.int p6), .val (.int (p1 &&& (3 : Int32))), .val (.ref b_1), .val (.int (3 : Int32)), .val (.ref b_145), .unset, .unset, .unset, .unset, .unset] [(.ref b_1), (.int (0 : Int32)), (.ref b_145)]))
        refine own_via (fun _ => XS.iconst X_145.here hx rfl (hb hby at_255)) ?_
        show own_Go p e below _ (T_145.setTop (mkF m 256 #[.val (.int p1), .val (.int p2), .val (.long q3), .second, .val (.int p4), .val (.int p5), .val (.int p6), .val (.int (p1 &&& (3 : Int32))), .val (.ref b_1), .val (.int (3 : Int32)), .val (.ref b_145), .unset, .unset, .unset, .unset, .unset] [(.int (0 : Int32)), (.ref b_1), (.int (0 : Int32)), (.ref b_145)]))
        have K_146 : Keep h_38 h_145 [] := (Keep.refl h_38 []).ext E_145
        obtain ⟨cl_147, Ar_147, q_147, S_147, M_147, H_147, G_147⟩ := (id (VE.keep K_146 nin0))
        have in_147 : ¬ ((0 : Int32) < 0 ∨ cl_147.slots.size ≤ ((0 : Int32)).toNatClampNeg) := inb_of S_147 ⟨by decide, by decide⟩
        refine own_via (X_145.caload hx (j := (0 : Int32)) (v := (.int e0)) (by rw [e_145]; exact Ar_147.1) (State.isArrayOf_alike hZ.alike Ar_147.2.1) Ar_147.2.2 in_147 (Has.at H_147 in_147 rfl) (g := (mkF m 256 #[.val (.int p1), .val (.int p2), .val (.long q3), .second, .val (.int p4), .val (.int p5), .val (.int p6), .val (.int (p1 &&& (3 : Int32))), .val (.ref b_1), .val (.int (3 : Int32)), .val (.ref b_145), .unset, .unset, .unset, .unset, .unset] [(.int (0 : Int32)), (.ref b_1), (.int (0 : Int32)), (.ref b_145)])) rfl rfl (hb hby at_256)) ?_
        show own_Go p e below _ (T_145.setTop (mkF m 257 #[.val (.int p1), .val (.int p2), .val (.long q3), .second, .val (.int p4), .val (.int p5), .val (.int p6), .val (.int (p1 &&& (3 : Int32))), .val (.ref b_1), .val (.int (3 : Int32)), .val (.ref b_145), .unset, .unset, .unset, .unset, .unset] [(.int e0), (.int (0 : Int32)), (.ref b_145)]))
        obtain ⟨cl_148, Ar_148, q_148, S_148, M_148, H_148, G_148⟩ := (id V_145)
        obtain ⟨T_148, h_148, X_148, e_148, W_148, st_148⟩ := stC X_145 hx hZ e_145 Ar_148 (j := (0 : Int32)) (inb_of S_148 ⟨by decide, by decide⟩) (g := (mkF m 257 #[.val (.int p1), .val (.int p2), .val (.long q3), .second, .val (.int p4), .val (.int p5), .val (.int p6), .val (.int (p1 &&& (3 : Int32))), .val (.ref b_1), .val (.int (3 : Int32)), .val (.ref b_145), .unset, .unset, .unset, .unset, .unset] [(.int e0), (.int (0 : Int32)), (.ref b_145)])) rfl rfl (hb hby at_257)
        have V_148 : Arv Z h_148 b_145 k_145 .char (3 : Int32) [(.int (nar .char e0)), (.int (0 : Int32)), (.int (0 : Int32))] (.int (0 : Int32)) := Arv.set Ar_148 q_148 S_148 M_148 H_148 G_148 (fits_nar_char _) W_148 0 rfl (Nat.le_of_ble_eq_true rfl)
        have K_149 : Keep h0 h_28 [] := Keep.wr (ws := []) K_26 W_28 (Or.inr (Nat.le_of_eq g_1.symm))
        have K_150 : Keep h0 h_33 [] := Keep.trans (ws := []) K_149 K_34 (allS (Or.inr (Nat.le_of_eq g_1.symm)) all0)
        have K_151 : Keep h0 h_38 [] := Keep.trans (ws := []) K_150 K_39 (allS (Or.inr (Nat.le_of_eq g_1.symm)) all0)
        have N_148 := Fr.snoc X_148 N_39 (Nat.le_trans Z0 (Nat.le_trans K_151.1 (Nat.le_of_eq g_145.symm)))
        refine own_via st_148 ?_
        show own_Go p e below _ (T_148.setTop (mkF m 258 #[.val (.int p1), .val (.int p2), .val (.long q3), .second, .val (.int p4), .val (.int p5), .val (.int p6), .val (.int (p1 &&& (3 : Int32))), .val (.ref b_1), .val (.int (3 : Int32)), .val (.ref b_145), .unset, .unset, .unset, .unset, .unset] []))
        have V_152 : Arv Z h_148 b_145 k_145 .char (3 : Int32) [(.int e0), (.int (0 : Int32)), (.int (0 : Int32))] (.int (0 : Int32)) := by have q := V_148; rwa [own_nar he0] at q
        refine own_via (fun _ => XS.iload X_148.here hx rfl (hb hby at_258) rfl) ?_
        show own_Go p e below _ (T_148.setTop (mkF m 260 #[.val (.int p1), .val (.int p2), .val (.long q3), .second, .val (.int p4), .val (.int p5), .val (.int p6), .val (.int (p1 &&& (3 : Int32))), .val (.ref b_1), .val (.int (3 : Int32)), .val (.ref b_145), .unset, .unset, .unset, .unset, .unset] [(.int (3 : Int32))]))
        refine own_via (fun _ => XS.iconst X_148.here hx rfl (hb hby at_260)) ?_
        show own_Go p e below _ (T_148.setTop (mkF m 261 #[.val (.int p1), .val (.int p2), .val (.long q3), .second, .val (.int p4), .val (.int p5), .val (.int p6), .val (.int (p1 &&& (3 : Int32))), .val (.ref b_1), .val (.int (3 : Int32)), .val (.ref b_145), .unset, .unset, .unset, .unset, .unset] [(.int (1 : Int32)), (.int (3 : Int32))]))
        refine own_via (fun _ => XS.icmpNo X_148.here hx rfl (hb hby at_261) rfl (tlt ((by decide) : (1 : Int32) < (3 : Int32))).2.2.2) ?_
        show own_Go p e below _ (T_148.setTop (mkF m 264 #[.val (.int p1), .val (.int p2), .val (.long q3), .second, .val (.int p4), .val (.int p5), .val (.int p6), .val (.int (p1 &&& (3 : Int32))), .val (.ref b_1), .val (.int (3 : Int32)), .val (.ref b_145), .unset, .unset, .unset, .unset, .unset] []))
        refine own_via (fun _ => XS.aload X_148.here hx rfl (hb hby at_264) rfl rfl) ?_
        show own_Go p e below _ (T_148.setTop (mkF m 266 #[.val (.int p1), .val (.int p2), .val (.long q3), .second, .val (.int p4), .val (.int p5), .val (.int p6), .val (.int (p1 &&& (3 : Int32))), .val (.ref b_1), .val (.int (3 : Int32)), .val (.ref b_145), .unset, .unset, .unset, .unset, .unset] [(.ref b_145)]))
        refine own_via (fun _ => XS.iconst X_148.here hx rfl (hb hby at_266)) ?_
        show own_Go p e below _ (T_148.setTop (mkF m 267 #[.val (.int p1), .val (.int p2), .val (.long q3), .second, .val (.int p4), .val (.int p5), .val (.int p6), .val (.int (p1 &&& (3 : Int32))), .val (.ref b_1), .val (.int (3 : Int32)), .val (.ref b_145), .unset, .unset, .unset, .unset, .unset] [(.int (1 : Int32)), (.ref b_145)]))
        refine own_via (fun _ => XS.aload X_148.here hx rfl (hb hby at_267) rfl rfl) ?_
        show own_Go p e below _ (T_148.setTop (mkF m 269 #[.val (.int p1), .val (.int p2), .val (.long q3), .second, .val (.int p4), .val (.int p5), .val (.int p6), .val (.int (p1 &&& (3 : Int32))), .val (.ref b_1), .val (.int (3 : Int32)), .val (.ref b_145), .unset, .unset, .unset, .unset, .unset] [(.ref b_1), (.int (1 : Int32)), (.ref b_145)]))
        refine own_via (fun _ => XS.iconst X_148.here hx rfl (hb hby at_269)) ?_
        show own_Go p e below _ (T_148.setTop (mkF m 270 #[.val (.int p1), .val (.int p2), .val (.long q3), .second, .val (.int p4), .val (.int p5), .val (.int p6), .val (.int (p1 &&& (3 : Int32))), .val (.ref b_1), .val (.int (3 : Int32)), .val (.ref b_145), .unset, .unset, .unset, .unset, .unset] [(.int (1 : Int32)), (.ref b_1), (.int (1 : Int32)), (.ref b_145)]))
        have K_153 : Keep h_38 h_148 [] := Keep.wr (ws := []) K_146 W_148 (Or.inr (Nat.le_of_eq g_145.symm))
        obtain ⟨cl_154, Ar_154, q_154, S_154, M_154, H_154, G_154⟩ := (id (VE.keep K_153 nin0))
        have in_154 : ¬ ((1 : Int32) < 0 ∨ cl_154.slots.size ≤ ((1 : Int32)).toNatClampNeg) := inb_of S_154 ⟨by decide, by decide⟩
        refine own_via (X_148.caload hx (j := (1 : Int32)) (v := (.int e1)) (by rw [e_148]; exact Ar_154.1) (State.isArrayOf_alike hZ.alike Ar_154.2.1) Ar_154.2.2 in_154 (Has.at H_154 in_154 rfl) (g := (mkF m 270 #[.val (.int p1), .val (.int p2), .val (.long q3), .second, .val (.int p4), .val (.int p5), .val (.int p6), .val (.int (p1 &&& (3 : Int32))), .val (.ref b_1), .val (.int (3 : Int32)), .val (.ref b_145), .unset, .unset, .unset, .unset, .unset] [(.int (1 : Int32)), (.ref b_1), (.int (1 : Int32)), (.ref b_145)])) rfl rfl (hb hby at_270)) ?_
        show own_Go p e below _ (T_148.setTop (mkF m 271 #[.val (.int p1), .val (.int p2), .val (.long q3), .second, .val (.int p4), .val (.int p5), .val (.int p6), .val (.int (p1 &&& (3 : Int32))), .val (.ref b_1), .val (.int (3 : Int32)), .val (.ref b_145), .unset, .unset, .unset, .unset, .unset] [(.int e1), (.int (1 : Int32)), (.ref b_145)]))
        obtain ⟨cl_155, Ar_155, q_155, S_155, M_155, H_155, G_155⟩ := (id V_152)
        obtain ⟨T_155, h_155, X_155, e_155, W_155, st_155⟩ := stC X_148 hx hZ e_148 Ar_155 (j := (1 : Int32)) (inb_of S_155 ⟨by decide, by decide⟩) (g := (mkF m 271 #[.val (.int p1), .val (.int p2), .val (.long q3), .second, .val (.int p4), .val (.int p5), .val (.int p6), .val (.int (p1 &&& (3 : Int32))), .val (.ref b_1), .val (.int (3 : Int32)), .val (.ref b_145), .unset, .unset, .unset, .unset, .unset] [(.int e1), (.int (1 : Int32)), (.ref b_145)])) rfl rfl (hb hby at_271)
        have V_155 : Arv Z h_155 b_145 k_145 .char (3 : Int32) [(.int e0), (.int (nar .char e1)), (.int (0 : Int32))] (.int (0 : Int32)) := Arv.set Ar_155 q_155 S_155 M_155 H_155 G_155 (fits_nar_char _) W_155 1 rfl (Nat.le_of_ble_eq_true rfl)
        have N_155 := Fr.snoc X_155 N_148 (Nat.le_trans Z0 (Nat.le_trans K_151.1 (Nat.le_of_eq g_145.symm)))
        refine own_via st_155 ?_
        show own_Go p e below _ (T_155.setTop (mkF m 272 #[.val (.int p1), .val (.int p2), .val (.long q3), .second, .val (.int p4), .val (.int p5), .val (.int p6), .val (.int (p1 &&& (3 : Int32))), .val (.ref b_1), .val (.int (3 : Int32)), .val (.ref b_145), .unset, .unset, .unset, .unset, .unset] []))
        have V_156 : Arv Z h_155 b_145 k_145 .char (3 : Int32) [(.int e0), (.int e1), (.int (0 : Int32))] (.int (0 : Int32)) := by have q := V_155; rwa [own_nar he1] at q
        refine own_via (fun _ => XS.iload X_155.here hx rfl (hb hby at_272) rfl) ?_
        show own_Go p e below _ (T_155.setTop (mkF m 274 #[.val (.int p1), .val (.int p2), .val (.long q3), .second, .val (.int p4), .val (.int p5), .val (.int p6), .val (.int (p1 &&& (3 : Int32))), .val (.ref b_1), .val (.int (3 : Int32)), .val (.ref b_145), .unset, .unset, .unset, .unset, .unset] [(.int (3 : Int32))]))
        refine own_via (fun _ => XS.iconst X_155.here hx rfl (hb hby at_274)) ?_
        show own_Go p e below _ (T_155.setTop (mkF m 275 #[.val (.int p1), .val (.int p2), .val (.long q3), .second, .val (.int p4), .val (.int p5), .val (.int p6), .val (.int (p1 &&& (3 : Int32))), .val (.ref b_1), .val (.int (3 : Int32)), .val (.ref b_145), .unset, .unset, .unset, .unset, .unset] [(.int (2 : Int32)), (.int (3 : Int32))]))
        refine own_via (fun _ => XS.icmpNo X_155.here hx rfl (hb hby at_275) rfl (tlt ((by decide) : (2 : Int32) < (3 : Int32))).2.2.2) ?_
        show own_Go p e below _ (T_155.setTop (mkF m 278 #[.val (.int p1), .val (.int p2), .val (.long q3), .second, .val (.int p4), .val (.int p5), .val (.int p6), .val (.int (p1 &&& (3 : Int32))), .val (.ref b_1), .val (.int (3 : Int32)), .val (.ref b_145), .unset, .unset, .unset, .unset, .unset] []))
        refine own_via (fun _ => XS.aload X_155.here hx rfl (hb hby at_278) rfl rfl) ?_
        show own_Go p e below _ (T_155.setTop (mkF m 280 #[.val (.int p1), .val (.int p2), .val (.long q3), .second, .val (.int p4), .val (.int p5), .val (.int p6), .val (.int (p1 &&& (3 : Int32))), .val (.ref b_1), .val (.int (3 : Int32)), .val (.ref b_145), .unset, .unset, .unset, .unset, .unset] [(.ref b_145)]))
        refine own_via (fun _ => XS.iconst X_155.here hx rfl (hb hby at_280)) ?_
        show own_Go p e below _ (T_155.setTop (mkF m 281 #[.val (.int p1), .val (.int p2), .val (.long q3), .second, .val (.int p4), .val (.int p5), .val (.int p6), .val (.int (p1 &&& (3 : Int32))), .val (.ref b_1), .val (.int (3 : Int32)), .val (.ref b_145), .unset, .unset, .unset, .unset, .unset] [(.int (2 : Int32)), (.ref b_145)]))
        refine own_via (fun _ => XS.aload X_155.here hx rfl (hb hby at_281) rfl rfl) ?_
        show own_Go p e below _ (T_155.setTop (mkF m 283 #[.val (.int p1), .val (.int p2), .val (.long q3), .second, .val (.int p4), .val (.int p5), .val (.int p6), .val (.int (p1 &&& (3 : Int32))), .val (.ref b_1), .val (.int (3 : Int32)), .val (.ref b_145), .unset, .unset, .unset, .unset, .unset] [(.ref b_1), (.int (2 : Int32)), (.ref b_145)]))
        refine own_via (fun _ => XS.iconst X_155.here hx rfl (hb hby at_283)) ?_
        show own_Go p e below _ (T_155.setTop (mkF m 284 #[.val (.int p1), .val (.int p2), .val (.long q3), .second, .val (.int p4), .val (.int p5), .val (.int p6), .val (.int (p1 &&& (3 : Int32))), .val (.ref b_1), .val (.int (3 : Int32)), .val (.ref b_145), .unset, .unset, .unset, .unset, .unset] [(.int (2 : Int32)), (.ref b_1), (.int (2 : Int32)), (.ref b_145)]))
        have K_157 : Keep h_38 h_155 [] := Keep.wr (ws := []) K_153 W_155 (Or.inr (Nat.le_of_eq g_145.symm))
        obtain ⟨cl_158, Ar_158, q_158, S_158, M_158, H_158, G_158⟩ := (id (VE.keep K_157 nin0))
        have in_158 : ¬ ((2 : Int32) < 0 ∨ cl_158.slots.size ≤ ((2 : Int32)).toNatClampNeg) := inb_of S_158 ⟨by decide, by decide⟩
        refine own_via (X_155.caload hx (j := (2 : Int32)) (v := (.int e2)) (by rw [e_155]; exact Ar_158.1) (State.isArrayOf_alike hZ.alike Ar_158.2.1) Ar_158.2.2 in_158 (Has.at H_158 in_158 rfl) (g := (mkF m 284 #[.val (.int p1), .val (.int p2), .val (.long q3), .second, .val (.int p4), .val (.int p5), .val (.int p6), .val (.int (p1 &&& (3 : Int32))), .val (.ref b_1), .val (.int (3 : Int32)), .val (.ref b_145), .unset, .unset, .unset, .unset, .unset] [(.int (2 : Int32)), (.ref b_1), (.int (2 : Int32)), (.ref b_145)])) rfl rfl (hb hby at_284)) ?_
        show own_Go p e below _ (T_155.setTop (mkF m 285 #[.val (.int p1), .val (.int p2), .val (.long q3), .second, .val (.int p4), .val (.int p5), .val (.int p6), .val (.int (p1 &&& (3 : Int32))), .val (.ref b_1), .val (.int (3 : Int32)), .val (.ref b_145), .unset, .unset, .unset, .unset, .unset] [(.int e2), (.int (2 : Int32)), (.ref b_145)]))
        obtain ⟨cl_159, Ar_159, q_159, S_159, M_159, H_159, G_159⟩ := (id V_156)
        obtain ⟨T_159, h_159, X_159, e_159, W_159, st_159⟩ := stC X_155 hx hZ e_155 Ar_159 (j := (2 : Int32)) (inb_of S_159 ⟨by decide, by decide⟩) (g := (mkF m 285 #[.val (.int p1), .val (.int p2), .val (.long q3), .second, .val (.int p4), .val (.int p5), .val (.int p6), .val (.int (p1 &&& (3 : Int32))), .val (.ref b_1), .val (.int (3 : Int32)), .val (.ref b_145), .unset, .unset, .unset, .unset, .unset] [(.int e2), (.int (2 : Int32)), (.ref b_145)])) rfl rfl (hb hby at_285)
        have V_159 : Arv Z h_159 b_145 k_145 .char (3 : Int32) [(.int e0), (.int e1), (.int (nar .char e2))] (.int (0 : Int32)) := Arv.set Ar_159 q_159 S_159 M_159 H_159 G_159 (fits_nar_char _) W_159 2 rfl (Nat.le_of_ble_eq_true rfl)
        have N_159 := Fr.snoc X_159 N_155 (Nat.le_trans Z0 (Nat.le_trans K_151.1 (Nat.le_of_eq g_145.symm)))
        refine own_via st_159 ?_
        show own_Go p e below _ (T_159.setTop (mkF m 286 #[.val (.int p1), .val (.int p2), .val (.long q3), .second, .val (.int p4), .val (.int p5), .val (.int p6), .val (.int (p1 &&& (3 : Int32))), .val (.ref b_1), .val (.int (3 : Int32)), .val (.ref b_145), .unset, .unset, .unset, .unset, .unset] []))
        have V_160 : Arv Z h_159 b_145 k_145 .char (3 : Int32) [(.int e0), (.int e1), (.int e2)] (.int (0 : Int32)) := by have q := V_159; rwa [own_nar he2] at q
        refine own_via (fun _ => XS.iload X_159.here hx rfl (hb hby at_286) rfl) ?_
        show own_Go p e below _ (T_159.setTop (mkF m 288 #[.val (.int p1), .val (.int p2), .val (.long q3), .second, .val (.int p4), .val (.int p5), .val (.int p6), .val (.int (p1 &&& (3 : Int32))), .val (.ref b_1), .val (.int (3 : Int32)), .val (.ref b_145), .unset, .unset, .unset, .unset, .unset] [(.int (3 : Int32))]))
        refine own_via (fun _ => XS.iconst X_159.here hx rfl (hb hby at_288)) ?_
        show own_Go p e below _ (T_159.setTop (mkF m 289 #[.val (.int p1), .val (.int p2), .val (.long q3), .second, .val (.int p4), .val (.int p5), .val (.int p6), .val (.int (p1 &&& (3 : Int32))), .val (.ref b_1), .val (.int (3 : Int32)), .val (.ref b_145), .unset, .unset, .unset, .unset, .unset] [(.int (3 : Int32)), (.int (3 : Int32))]))
        refine own_via (fun _ => XS.icmpYes X_159.here hx rfl (pc0 := 289) (pc' := 300) rfl (hb hby at_289) rfl (flt ((by decide) : ¬ ((3 : Int32) < (3 : Int32)))).2.2.2 (by decide) (by decide)) ?_
        show own_Go p e below _ (T_159.setTop (mkF m 300 #[.val (.int p1), .val (.int p2), .val (.long q3), .second, .val (.int p4), .val (.int p5), .val (.int p6), .val (.int (p1 &&& (3 : Int32))), .val (.ref b_1), .val (.int (3 : Int32)), .val (.ref b_145), .unset, .unset, .unset, .unset, .unset] []))
        refine own_via (fun _ => XS.iload X_159.here hx rfl (hb hby at_300) rfl) ?_
        show own_Go p e below _ (T_159.setTop (mkF m 302 #[.val (.int p1), .val (.int p2), .val (.long q3), .second, .val (.int p4), .val (.int p5), .val (.int p6), .val (.int (p1 &&& (3 : Int32))), .val (.ref b_1), .val (.int (3 : Int32)), .val (.ref b_145), .unset, .unset, .unset, .unset, .unset] [(.int (3 : Int32))]))
        refine own_via (fun _ => XS.iconst X_159.here hx rfl (hb hby at_302)) ?_
        show own_Go p e below _ (T_159.setTop (mkF m 303 #[.val (.int p1), .val (.int p2), .val (.long q3), .second, .val (.int p4), .val (.int p5), .val (.int p6), .val (.int (p1 &&& (3 : Int32))), .val (.ref b_1), .val (.int (3 : Int32)), .val (.ref b_145), .unset, .unset, .unset, .unset, .unset] [(.int (4 : Int32)), (.int (3 : Int32))]))
        refine own_via (fun _ => XS.icmpYes X_159.here hx rfl (pc0 := 303) (pc' := 314) rfl (hb hby at_303) rfl (flt ((by decide) : ¬ ((4 : Int32) < (3 : Int32)))).2.2.2 (by decide) (by decide)) ?_
        show own_Go p e below _ (T_159.setTop (mkF m 314 #[.val (.int p1), .val (.int p2), .val (.long q3), .second, .val (.int p4), .val (.int p5), .val (.int p6), .val (.int (p1 &&& (3 : Int32))), .val (.ref b_1), .val (.int (3 : Int32)), .val (.ref b_145), .unset, .unset, .unset, .unset, .unset] []))
        refine own_via (fun _ => XS.iload X_159.here hx rfl (hb hby at_314) rfl) ?_
        show own_Go p e below _ (T_159.setTop (mkF m 316 #[.val (.int p1), .val (.int p2), .val (.long q3), .second, .val (.int p4), .val (.int p5), .val (.int p6), .val (.int (p1 &&& (3 : Int32))), .val (.ref b_1), .val (.int (3 : Int32)), .val (.ref b_145), .unset, .unset, .unset, .unset, .unset] [(.int (3 : Int32))]))
        refine own_via (fun _ => XS.iconst X_159.here hx rfl (hb hby at_316)) ?_
        show own_Go p e below _ (T_159.setTop (mkF m 317 #[.val (.int p1), .val (.int p2), .val (.long q3), .second, .val (.int p4), .val (.int p5), .val (.int p6), .val (.int (p1 &&& (3 : Int32))), .val (.ref b_1), .val (.int (3 : Int32)), .val (.ref b_145), .unset, .unset, .unset, .unset, .unset] [(.int (5 : Int32)), (.int (3 : Int32))]))
        refine own_via (fun _ => XS.icmpYes X_159.here hx rfl (pc0 := 317) (pc' := 328) rfl (hb hby at_317) rfl (flt ((by decide) : ¬ ((5 : Int32) < (3 : Int32)))).2.2.2 (by decide) (by decide)) ?_
        show own_Go p e below _ (T_159.setTop (mkF m 328 #[.val (.int p1), .val (.int p2), .val (.long q3), .second, .val (.int p4), .val (.int p5), .val (.int p6), .val (.int (p1 &&& (3 : Int32))), .val (.ref b_1), .val (.int (3 : Int32)), .val (.ref b_145), .unset, .unset, .unset, .unset, .unset] []))
        refine own_via (fun _ => XS.iload X_159.here hx rfl (hb hby at_328) rfl) ?_
        show own_Go p e below _ (T_159.setTop (mkF m 330 #[.val (.int p1), .val (.int p2), .val (.long q3), .second, .val (.int p4), .val (.int p5), .val (.int p6), .val (.int (p1 &&& (3 : Int32))), .val (.ref b_1), .val (.int (3 : Int32)), .val (.ref b_145), .unset, .unset, .unset, .unset, .unset] [(.int (3 : Int32))]))
        refine own_via (fun _ => XS.bipush X_159.here hx rfl (hb hby at_330)) ?_
        show own_Go p e below _ (T_159.setTop (mkF m 332 #[.val (.int p1), .val (.int p2), .val (.long q3), .second, .val (.int p4), .val (.int p5), .val (.int p6), .val (.int (p1 &&& (3 : Int32))), .val (.ref b_1), .val (.int (3 : Int32)), .val (.ref b_145), .unset, .unset, .unset, .unset, .unset] [(.int (6 : Int32)), (.int (3 : Int32))]))
        refine own_via (fun _ => XS.icmpYes X_159.here hx rfl (pc0 := 332) (pc' := 345) rfl (hb hby at_332) rfl (flt ((by decide) : ¬ ((6 : Int32) < (3 : Int32)))).2.2.2 (by decide) (by decide)) ?_
        show own_Go p e below _ (T_159.setTop (mkF m 345 #[.val (.int p1), .val (.int p2), .val (.long q3), .second, .val (.int p4), .val (.int p5), .val (.int p6), .val (.int (p1 &&& (3 : Int32))), .val (.ref b_1), .val (.int (3 : Int32)), .val (.ref b_145), .unset, .unset, .unset, .unset, .unset] []))
        obtain ⟨T_161, h_161, X_161, e_161, E_161, A_161, D_161, -, st_161⟩ := newO X_159 hx hZ hown (own_w hw 6 rfl) (own_w hw 7 rfl) (own_w hw 8 rfl) e_159 (g := (mkF m 345 #[.val (.int p1), .val (.int p2), .val (.long q3), .second, .val (.int p4), .val (.int p5), .val (.int p6), .val (.int (p1 &&& (3 : Int32))), .val (.ref b_1), .val (.int (3 : Int32)), .val (.ref b_145), .unset, .unset, .unset, .unset, .unset] [])) rfl (hb hby at_345) (by decide) (by decide)
        obtain ⟨b_161, g_161⟩ : ∃ z, z = h_159.size := ⟨_, rfl⟩
        rw [← g_161] at A_161 D_161 st_161
        have F_162 : Fld Z h_161 b_161 "com/example/cascadilla/cascadilla/language/Type" "name" "Ljava/lang/String;" .null := D_161 (Or.inr (own_w hw 43 rfl)) (ty := (.object "java/lang/String")) (by decide)
        have F_163 : Fld Z h_161 b_161 "com/example/cascadilla/cascadilla/language/Type" "label" "Lcom/example/cascadilla/cascadilla/language/Label;" .null := D_161 (Or.inr (own_w hw 45 rfl)) (ty := (.object "com/example/cascadilla/cascadilla/language/Label")) (by decide)
        have F_164 : Fld Z h_161 b_161 "com/example/cascadilla/cascadilla/language/Type" "line" "I" (.int (0 : Int32)) := D_161 (Or.inr (own_w hw 47 rfl)) (ty := .int) (by decide)
        refine own_via st_161 ?_
        show own_Go p e below _ (T_161.setTop (mkF m 348 #[.val (.int p1), .val (.int p2), .val (.long q3), .second, .val (.int p4), .val (.int p5), .val (.int p6), .val (.int (p1 &&& (3 : Int32))), .val (.ref b_1), .val (.int (3 : Int32)), .val (.ref b_145), .unset, .unset, .unset, .unset, .unset] [(.ref b_161)]))
        refine own_via (fun _ => XS.dup X_161.here hx rfl (hb hby at_348) rfl rfl) ?_
        show own_Go p e below _ (T_161.setTop (mkF m 349 #[.val (.int p1), .val (.int p2), .val (.long q3), .second, .val (.int p4), .val (.int p5), .val (.int p6), .val (.int (p1 &&& (3 : Int32))), .val (.ref b_1), .val (.int (3 : Int32)), .val (.ref b_145), .unset, .unset, .unset, .unset, .unset] [(.ref b_161), (.ref b_161)]))
        obtain ⟨T_165, h_165, X_165, e_165, E_165, A_165, D_165, -, st_165⟩ := newO X_161 hx hZ hown (own_w hw 9 rfl) (own_w hw 10 rfl) (own_w hw 11 rfl) e_161 (g := (mkF m 349 #[.val (.int p1), .val (.int p2), .val (.long q3), .second, .val (.int p4), .val (.int p5), .val (.int p6), .val (.int (p1 &&& (3 : Int32))), .val (.ref b_1), .val (.int (3 : Int32)), .val (.ref b_145), .unset, .unset, .unset, .unset, .unset] [(.ref b_161), (.ref b_161)])) rfl (hb hby at_349) (by decide) (by decide)
        obtain ⟨b_165, g_165⟩ : ∃ z, z = h_161.size := ⟨_, rfl⟩
        rw [← g_165] at A_165 D_165 st_165
        have F_166 : Fld Z h_165 b_165 "java/lang/String" "coder" "B" (.int (0 : Int32)) := D_165 (Or.inr (own_w hw 35 rfl)) (ty := .byte) (by decide)
        have F_167 : Fld Z h_165 b_165 "java/lang/String" "value" "[B" .null := D_165 (Or.inr (own_w hw 37 rfl)) (ty := (.array .byte)) (by decide)
        refine own_via st_165 ?_
        show own_Go p e below _ (T_165.setTop (mkF m 352 #[.val (.int p1), .val (.int p2), .val (.long q3), .second, .val (.int p4), .val (.int p5), .val (.int p6), .val (.int (p1 &&& (3 : Int32))), .val (.ref b_1), .val (.int (3 : Int32)), .val (.ref b_145), .unset, .unset, .unset, .unset, .unset] [(.ref b_165), (.ref b_161), (.ref b_161)]))
        refine own_via (fun _ => XS.dup X_165.here hx rfl (hb hby at_352) rfl rfl) ?_
        show own_Go p e below _ (T_165.setTop (mkF m 353 #[.val (.int p1), .val (.int p2), .val (.long q3), .second, .val (.int p4), .val (.int p5), .val (.int p6), .val (.int (p1 &&& (3 : Int32))), .val (.ref b_1), .val (.int (3 : Int32)), .val (.ref b_145), .unset, .unset, .unset, .unset, .unset] [(.ref b_165), (.ref b_165), (.ref b_161), (.ref b_161)]))
        refine own_via (fun _ => XS.aload X_165.here hx rfl (hb hby at_353) rfl rfl) ?_
        show own_Go p e below _ (T_165.setTop (mkF m 355 #[.val (.int p1), .val (.int p2), .val (.long q3), .second, .val (.int p4), .val (.int p5), .val (.int p6), .val (.int (p1 &&& (3 : Int32))), .val (.ref b_1), .val (.int (3 : Int32)), .val (.ref b_145), .unset, .unset, .unset, .unset, .unset] [(.ref b_145), (.ref b_165), (.ref b_165), (.ref b_161), (.ref b_161)]))
        have hp : ∀ c ∈ ([e0, e1, e2] : List Int32), ¬ c < 0 ∧ ¬ (255 : Int32) < c := by intro c hc; simp only [List.mem_cons, List.not_mem_nil, or_false] at hc; rcases hc with rfl | rfl | rfl <;> assumption
        have K_168 : Keep h_159 h_161 [] := (Keep.refl h_159 []).ext E_161
        have K_169 : Keep h_159 h_165 [] := K_168.ext E_165
        have K_170 : Keep h0 h_145 [] := K_151.ext E_145
        have K_171 : Keep h0 h_148 [] := Keep.wr (ws := []) K_170 W_148 (Or.inr (Nat.le_trans K_151.1 (Nat.le_of_eq g_145.symm)))
        have K_172 : Keep h0 h_155 [] := Keep.wr (ws := []) K_171 W_155 (Or.inr (Nat.le_trans K_151.1 (Nat.le_of_eq g_145.symm)))
        have K_173 : Keep h0 h_159 [] := Keep.wr (ws := []) K_172 W_159 (Or.inr (Nat.le_trans K_151.1 (Nat.le_of_eq g_145.symm)))
        have K_174 : Keep h0 h_161 [] := K_173.ext E_161
        have K_175 : Keep h0 h_165 [] := K_174.ext E_165
        obtain ⟨_, _, ⟨T_176, L_176, k_176, n_176⟩, -, X_176, ⟨Lc_176, hQ_176, l_176, y_176, z_176⟩, st_176⟩ := X_165.specialBack hx (y := (⟨"java/lang/String", "<init>", "([C)V"⟩ : MethodName)) rfl hown (mvT hZ (own_w hw 12 rfl)) (mvT hZ (own_w hw 13 rfl)) (mvT hZ (own_w hw 14 rfl)) (by decide) (StrChars.Road.backV (W := 3) hZ (own_hwords hw) (kI := 4) (own_w hw 10 rfl) (cs := ([e0, e1, e2] : List Int32)) (bs := ([e0, e1, e2] : List Int32).map (fun c => c.toInt8.toInt32)) (n := 3) (Nat.le_trans Z0 (Nat.le_trans K_174.1 (Nat.le_of_eq g_165.symm))) (Nat.le_trans Z0 K_175.1) A_165 F_167 F_166 (V_160.keep K_169 nin0) (Scs.ext (O0.keep K_175 all0).2) hcs rfl rfl (by decide) (by decide) hp rfl (by decide) (by decide)) (g := (mkF m 355 #[.val (.int p1), .val (.int p2), .val (.long q3), .second, .val (.int p4), .val (.int p5), .val (.int p6), .val (.int (p1 &&& (3 : Int32))), .val (.ref b_1), .val (.int (3 : Int32)), .val (.ref b_145), .unset, .unset, .unset, .unset, .unset] [(.ref b_145), (.ref b_165), (.ref b_165), (.ref b_161), (.ref b_161)])) rfl (by rw [hml]; rfl) (Steps.refl _) (a := b_165) (argsL := [(.ref b_145)]) (rest := [(.ref b_165), (.ref b_161), (.ref b_161)]) (lenOf pd_6 rfl) rfl (by show 2 * 0 + _ ≤ _; exact Nat.le_of_eq rfl) (hb hby at_355) (fun _ _ => ⟨rfl, e_165, (by decide : 4 + 1 ≤ _), (by decide : 17 + 3 ≤ _)⟩)
        dsimp only [Pt.U, Pt.locs, Pt.cells, Pt.slots] at X_176 l_176 y_176 z_176 st_176 hQ_176
        subst l_176 y_176 z_176
        obtain ⟨rfl, Nq_176, K_176q, EX_176, FC_176, t_176, kb_176, -, ft_176, -, FV_176, FA_176⟩ := hQ_176
        have N_176 := Fr.app N_159 Nq_176
        refine own_via (fun _ k => st_176.trans k) ?_
        show own_Go p e below _ (T_176.setTop (mkF m 358 #[.val (.int p1), .val (.int p2), .val (.long q3), .second, .val (.int p4), .val (.int p5), .val (.int p6), .val (.int (p1 &&& (3 : Int32))), .val (.ref b_1), .val (.int (3 : Int32)), .val (.ref b_145), .unset, .unset, .unset, .unset, .unset] [(.ref b_165), (.ref b_161), (.ref b_161)]))
        have SS : own_Str Z T_176.heap b_165 [e0, e1, e2] := ⟨EX_176, FC_176, ⟨t_176, kb_176, FV_176, FA_176⟩, hp, by simp⟩
        refine own_via (fun _ => XS.aconstNull X_176.here hx rfl (hb hby at_358)) ?_
        show own_Go p e below _ (T_176.setTop (mkF m 359 #[.val (.int p1), .val (.int p2), .val (.long q3), .second, .val (.int p4), .val (.int p5), .val (.int p6), .val (.int (p1 &&& (3 : Int32))), .val (.ref b_1), .val (.int (3 : Int32)), .val (.ref b_145), .unset, .unset, .unset, .unset, .unset] [.null, (.ref b_165), (.ref b_161), (.ref b_161)]))
        refine own_via (fun _ => XS.iload X_176.here hx rfl (hb hby at_359) rfl) ?_
        show own_Go p e below _ (T_176.setTop (mkF m 361 #[.val (.int p1), .val (.int p2), .val (.long q3), .second, .val (.int p4), .val (.int p5), .val (.int p6), .val (.int (p1 &&& (3 : Int32))), .val (.ref b_1), .val (.int (3 : Int32)), .val (.ref b_145), .unset, .unset, .unset, .unset, .unset] [(.int p6), .null, (.ref b_165), (.ref b_161), (.ref b_161)]))
        have K_177 : Keep h_161 h_165 [] := (Keep.refl h_161 []).ext E_165
        have K_178 : Keep h_161 T_176.heap [] := Keep.trans (ws := []) K_177 K_176q (allS (Or.inr (Nat.le_of_eq g_165.symm)) all0)
        have K_179 : Keep h0 T_176.heap [] := Keep.trans (ws := []) K_175 K_176q (allS (Or.inr (Nat.le_trans K_174.1 (Nat.le_of_eq g_165.symm))) all0)
        obtain ⟨_, _, ⟨T_180, L_180, k_180, n_180⟩, -, X_180, ⟨Lc_180, hQ_180, l_180, y_180, z_180⟩, st_180⟩ := X_176.specialBack hx (y := (⟨"com/example/cascadilla/cascadilla/language/Type", "<init>", "(Ljava/lang/String;Lcom/example/cascadilla/cascadilla/language/Label;I)V"⟩ : MethodName)) rfl hown (mvT hZ (own_w hw 38 rfl)) (mvT hZ (own_w hw 39 rfl)) (mvT hZ (own_w hw 40 rfl)) (by decide) (backOf (W := 1) (rmtype l Z a0 hw [] b_161 b_165 p6 T_176.heap n0 (Nat.le_trans Z0 K_179.1) (A_161.keep K_178) (F_162.keep K_178 nin0) (F_163.keep K_178 nin0) (F_164.keep K_178 nin0) (Nat.le_trans Z0 (Nat.le_trans K_173.1 (Nat.le_of_eq g_161.symm)))) hZ (own_w hw 40 rfl) (own_w hw 8 rfl) (by decide) (by decide)) (g := (mkF m 361 #[.val (.int p1), .val (.int p2), .val (.long q3), .second, .val (.int p4), .val (.int p5), .val (.int p6), .val (.int (p1 &&& (3 : Int32))), .val (.ref b_1), .val (.int (3 : Int32)), .val (.ref b_145), .unset, .unset, .unset, .unset, .unset] [(.int p6), .null, (.ref b_165), (.ref b_161), (.ref b_161)])) rfl (by rw [hml]; rfl) (Steps.refl _) (a := b_161) (argsL := [(.ref b_165), .null, (.int p6)]) (rest := [(.ref b_161)]) (lenOf pd_7 rfl) rfl (by show 2 * 0 + _ ≤ _; exact Nat.le_of_eq rfl) (hb hby at_361) (fun _ _ => ⟨rfl, rfl, (by decide : 5 + 0 ≤ _), (by decide : 20 + 0 ≤ _)⟩)
        dsimp only [Pt.U, Pt.locs, Pt.cells, Pt.slots] at X_180 l_180 y_180 z_180 st_180 hQ_180
        subst l_180 y_180 z_180
        obtain ⟨rfl, Nq_180, K_180q, q_180_0⟩ := hQ_180
        have N_180 := Fr.app N_176 Nq_180
        refine own_via (fun _ k => st_180.trans k) ?_
        show own_Go p e below _ (T_180.setTop (mkF m 364 #[.val (.int p1), .val (.int p2), .val (.long q3), .second, .val (.int p4), .val (.int p5), .val (.int p6), .val (.int (p1 &&& (3 : Int32))), .val (.ref b_1), .val (.int (3 : Int32)), .val (.ref b_145), .unset, .unset, .unset, .unset, .unset] [(.ref b_161)]))
        refine own_via (fun _ => XS.astore X_180.here hx rfl (hb hby at_364) rfl rfl (l' := #[.val (.int p1), .val (.int p2), .val (.long q3), .second, .val (.int p4), .val (.int p5), .val (.int p6), .val (.int (p1 &&& (3 : Int32))), .val (.ref b_1), .val (.int (3 : Int32)), .val (.ref b_145), .val (.ref b_161), .unset, .unset, .unset, .unset]) rfl) ?_
        show own_Go p e below _ (T_180.setTop (mkF m 366 #[.val (.int p1), .val (.int p2), .val (.long q3), .second, .val (.int p4), .val (.int p5), .val (.int p6), .val (.int (p1 &&& (3 : Int32))), .val (.ref b_1), .val (.int (3 : Int32)), .val (.ref b_145), .val (.ref b_161), .unset, .unset, .unset, .unset] []))
        refine own_via (fun _ => XS.aload X_180.here hx rfl (hb hby at_366) rfl rfl) ?_
        show own_Go p e below _ (T_180.setTop (mkF m 368 #[.val (.int p1), .val (.int p2), .val (.long q3), .second, .val (.int p4), .val (.int p5), .val (.int p6), .val (.int (p1 &&& (3 : Int32))), .val (.ref b_1), .val (.int (3 : Int32)), .val (.ref b_145), .val (.ref b_161), .unset, .unset, .unset, .unset] [(.ref b_161)]))
        have K_181 : Keep T_176.heap T_180.heap [b_161] := Keep.trans (ws := [b_161]) (own_keep_mono (Keep.refl T_176.heap []) (by simp)) K_180q (allS (Or.inl (List.mem_of_getElem? (i := 0) rfl)) all0)
        have K_182 : Keep h0 T_180.heap [] := Keep.trans (ws := []) K_179 K_180q (allS (Or.inr (Nat.le_trans K_173.1 (Nat.le_of_eq g_161.symm))) all0)
        have K_184 : Keep h_161 T_180.heap [b_161] := Keep.trans (ws := [b_161]) (own_keep_mono K_178 (by simp)) K_180q (allS (Or.inl (List.mem_of_getElem? (i := 0) rfl)) all0)
        obtain ⟨cq_183, kq_183, q_183a, q_183b, q_183c⟩ := isOf hZ rfl (A_161.keep K_184)
        obtain ⟨_, _, ⟨T_183, L_183, k_183, n_183⟩, -, Xc_183, hSc_183, hgc_183, ⟨Lc_183, hQ_183, l_183, y_183, z_183⟩, st_183⟩ := X_180.virtualBackS hx (y := (⟨"com/example/cascadilla/cascadilla/language/Type", "isClass", "()Z"⟩ : MethodName)) (z := (⟨"com/example/cascadilla/cascadilla/language/Type", "isClass", "()Z"⟩ : MethodName)) hown (mvT hZ (own_w hw 48 rfl)) (mvT hZ (own_w hw 49 rfl)) (notFace_of_selects (args := #[]) (mvT hZ (own_w hw 51 rfl))) (mvT hZ (own_w hw 51 rfl)) (mvT hZ (own_w hw 50 rfl)) (by decide) (own_backS (J := fun vm_ => CHv Z consts_1 vm_ T_180.heap) (W := 0) (rmisClass l Z a0 hw [] b_161 b_165 [e0, e1, e2] cs T_180.heap n0 (Nat.le_trans Z0 K_182.1) (O0.keep K_182 all0) Scs hcs q_180_0 (SS.keepO K_181 (own_offS (A_161.keep K_178) (by decide) (own_w hw 7 rfl) own_off0))) hZ (own_w hw 52 rfl) (own_w hw 8 rfl) (by decide) (by decide)) q_183a q_183c (g := (mkF m 368 #[.val (.int p1), .val (.int p2), .val (.long q3), .second, .val (.int p4), .val (.int p5), .val (.int p6), .val (.int (p1 &&& (3 : Int32))), .val (.ref b_1), .val (.int (3 : Int32)), .val (.ref b_145), .val (.ref b_161), .unset, .unset, .unset, .unset] [(.ref b_161)])) rfl (by rw [hml]; rfl) (Steps.refl _) (argsL := []) (rest := []) (lenOf pd_8 rfl) rfl (by show 2 * 0 + _ ≤ _; exact Nat.le_of_eq rfl) (hb hby at_368) (fun _ hW1 => ⟨rfl, rfl, (own_CHstay (J0.keep K_182 all0) hZ (own_EW hw) hW1), (by decide : 5 + 4 ≤ _), (by decide : 20 + 48 ≤ _)⟩)
        dsimp only [Pt.U, Pt.locs, Pt.cells, Pt.slots] at Xc_183 hSc_183 hgc_183 l_183 y_183 z_183 st_183 hQ_183
        subst l_183 y_183 z_183
        obtain ⟨X_183, hS_183, hZ_183, ho_183⟩ := rebS hS0 (Nat.le_trans (Nat.zero_le _) K_182.1) Xc_183 hSc_183 hgc_183 hZ hown
        obtain ⟨i_185, rfl, Nq_183, K_183q, q_183_0, J_183⟩ := hQ_183
        have N_183 := Fr.app N_180 Nq_183
        refine own_via (fun _ k => st_183.trans k) ?_
        show own_Go p e below _ (T_183.setTop (mkF m 371 #[.val (.int p1), .val (.int p2), .val (.long q3), .second, .val (.int p4), .val (.int p5), .val (.int p6), .val (.int (p1 &&& (3 : Int32))), .val (.ref b_1), .val (.int (3 : Int32)), .val (.ref b_145), .val (.ref b_161), .unset, .unset, .unset, .unset] [(.int i_185)]))
        refine own_via (fun _ => XS.istore X_183.here hx rfl (hb hby at_371) rfl (l' := #[.val (.int p1), .val (.int p2), .val (.long q3), .second, .val (.int p4), .val (.int p5), .val (.int p6), .val (.int (p1 &&& (3 : Int32))), .val (.ref b_1), .val (.int (3 : Int32)), .val (.ref b_145), .val (.ref b_161), .val (.int i_185), .unset, .unset, .unset]) rfl) ?_
        show own_Go p e below _ (T_183.setTop (mkF m 373 #[.val (.int p1), .val (.int p2), .val (.long q3), .second, .val (.int p4), .val (.int p5), .val (.int p6), .val (.int (p1 &&& (3 : Int32))), .val (.ref b_1), .val (.int (3 : Int32)), .val (.ref b_145), .val (.ref b_161), .val (.int i_185), .unset, .unset, .unset] []))
        refine own_via (fun _ => XS.iload X_183.here hx rfl (hb hby at_373) rfl) ?_
        show own_Go p e below _ (T_183.setTop (mkF m 375 #[.val (.int p1), .val (.int p2), .val (.long q3), .second, .val (.int p4), .val (.int p5), .val (.int p6), .val (.int (p1 &&& (3 : Int32))), .val (.ref b_1), .val (.int (3 : Int32)), .val (.ref b_145), .val (.ref b_161), .val (.int i_185), .unset, .unset, .unset] [(.int (3 : Int32))]))
        refine own_via (fun _ => XS.iconst X_183.here hx rfl (hb hby at_375)) ?_
        show own_Go p e below _ (T_183.setTop (mkF m 376 #[.val (.int p1), .val (.int p2), .val (.long q3), .second, .val (.int p4), .val (.int p5), .val (.int p6), .val (.int (p1 &&& (3 : Int32))), .val (.ref b_1), .val (.int (3 : Int32)), .val (.ref b_145), .val (.ref b_161), .val (.int i_185), .unset, .unset, .unset] [(.int (3 : Int32)), (.int (3 : Int32))]))
        obtain ⟨z13, ez13⟩ : ∃ z : Int32, z = (if e0 = (105 : Int32) then (if e1 = (110 : Int32) then (if e2 = (116 : Int32) then (1 : Int32) else (0 : Int32)) else (0 : Int32)) else (0 : Int32)) := ⟨_, rfl⟩
        refine own_seq (B := T_183.setTop (mkF m 411 #[.val (.int p1), .val (.int p2), .val (.long q3), .second, .val (.int p4), .val (.int p5), .val (.int p6), .val (.int (p1 &&& (3 : Int32))), .val (.ref b_1), .val (.int (3 : Int32)), .val (.ref b_145), .val (.ref b_161), .val (.int i_185), .unset, .unset, .unset] [(.int z13)])) (fun kz => ?_) ?_
        · refine own_via (fun _ => XS.icmpNo X_183.here hx rfl (hb hby at_376) rfl (teq ((by decide) : (3 : Int32) = (3 : Int32))).2) ?_
          show own_Go p e below _ (T_183.setTop (mkF m 379 #[.val (.int p1), .val (.int p2), .val (.long q3), .second, .val (.int p4), .val (.int p5), .val (.int p6), .val (.int (p1 &&& (3 : Int32))), .val (.ref b_1), .val (.int (3 : Int32)), .val (.ref b_145), .val (.ref b_161), .val (.int i_185), .unset, .unset, .unset] []))
          refine own_via (fun _ => XS.aload X_183.here hx rfl (hb hby at_379) rfl rfl) ?_
          show own_Go p e below _ (T_183.setTop (mkF m 381 #[.val (.int p1), .val (.int p2), .val (.long q3), .second, .val (.int p4), .val (.int p5), .val (.int p6), .val (.int (p1 &&& (3 : Int32))), .val (.ref b_1), .val (.int (3 : Int32)), .val (.ref b_145), .val (.ref b_161), .val (.int i_185), .unset, .unset, .unset] [(.ref b_145)]))
          refine own_via (fun _ => XS.iconst X_183.here hx rfl (hb hby at_381)) ?_
          show own_Go p e below _ (T_183.setTop (mkF m 382 #[.val (.int p1), .val (.int p2), .val (.long q3), .second, .val (.int p4), .val (.int p5), .val (.int p6), .val (.int (p1 &&& (3 : Int32))), .val (.ref b_1), .val (.int (3 : Int32)), .val (.ref b_145), .val (.ref b_161), .val (.int i_185), .unset, .unset, .unset] [(.int (0 : Int32)), (.ref b_145)]))
          have K_186 : Keep h_159 T_176.heap [] := Keep.trans (ws := []) K_169 K_176q (allS (Or.inr (Nat.le_trans K_168.1 (Nat.le_of_eq g_165.symm))) all0)
          have K_187 : Keep h_159 T_180.heap [] := Keep.trans (ws := []) K_186 K_180q (allS (Or.inr (Nat.le_of_eq g_161.symm)) all0)
          have K_188 : Keep h_159 T_183.heap [] := Keep.trans (ws := []) K_187 K_183q all0
          obtain ⟨cl_189, Ar_189, q_189, S_189, M_189, H_189, G_189⟩ := (id (V_160.keep K_188 nin0))
          have in_189 : ¬ ((0 : Int32) < 0 ∨ cl_189.slots.size ≤ ((0 : Int32)).toNatClampNeg) := inb_of S_189 ⟨by decide, by decide⟩
          refine own_via (X_183.caload hx (j := (0 : Int32)) (v := (.int e0)) Ar_189.1 (State.isArrayOf_alike hZ_183.alike Ar_189.2.1) Ar_189.2.2 in_189 (Has.at H_189 in_189 rfl) (g := (mkF m 382 #[.val (.int p1), .val (.int p2), .val (.long q3), .second, .val (.int p4), .val (.int p5), .val (.int p6), .val (.int (p1 &&& (3 : Int32))), .val (.ref b_1), .val (.int (3 : Int32)), .val (.ref b_145), .val (.ref b_161), .val (.int i_185), .unset, .unset, .unset] [(.int (0 : Int32)), (.ref b_145)])) rfl rfl (hb hby at_382)) ?_
          show own_Go p e below _ (T_183.setTop (mkF m 383 #[.val (.int p1), .val (.int p2), .val (.long q3), .second, .val (.int p4), .val (.int p5), .val (.int p6), .val (.int (p1 &&& (3 : Int32))), .val (.ref b_1), .val (.int (3 : Int32)), .val (.ref b_145), .val (.ref b_161), .val (.int i_185), .unset, .unset, .unset] [(.int e0)]))
          refine own_via (fun _ => XS.bipush X_183.here hx rfl (hb hby at_383)) ?_
          show own_Go p e below _ (T_183.setTop (mkF m 385 #[.val (.int p1), .val (.int p2), .val (.long q3), .second, .val (.int p4), .val (.int p5), .val (.int p6), .val (.int (p1 &&& (3 : Int32))), .val (.ref b_1), .val (.int (3 : Int32)), .val (.ref b_145), .val (.ref b_161), .val (.int i_185), .unset, .unset, .unset] [(.int (105 : Int32)), (.int e0)]))
          by_cases hv_190 : e0 = (105 : Int32)
          · refine own_via (fun _ => XS.icmpNo X_183.here hx rfl (hb hby at_385) rfl (teq (hv_190 : e0 = (105 : Int32))).2) ?_
            show own_Go p e below _ (T_183.setTop (mkF m 388 #[.val (.int p1), .val (.int p2), .val (.long q3), .second, .val (.int p4), .val (.int p5), .val (.int p6), .val (.int (p1 &&& (3 : Int32))), .val (.ref b_1), .val (.int (3 : Int32)), .val (.ref b_145), .val (.ref b_161), .val (.int i_185), .unset, .unset, .unset] []))
            refine own_via (fun _ => XS.aload X_183.here hx rfl (hb hby at_388) rfl rfl) ?_
            show own_Go p e below _ (T_183.setTop (mkF m 390 #[.val (.int p1), .val (.int p2), .val (.long q3), .second, .val (.int p4), .val (.int p5), .val (.int p6), .val (.int (p1 &&& (3 : Int32))), .val (.ref b_1), .val (.int (3 : Int32)), .val (.ref b_145), .val (.ref b_161), .val (.int i_185), .unset, .unset, .unset] [(.ref b_145)]))
            refine own_via (fun _ => XS.iconst X_183.here hx rfl (hb hby at_390)) ?_
            show own_Go p e below _ (T_183.setTop (mkF m 391 #[.val (.int p1), .val (.int p2), .val (.long q3), .second, .val (.int p4), .val (.int p5), .val (.int p6), .val (.int (p1 &&& (3 : Int32))), .val (.ref b_1), .val (.int (3 : Int32)), .val (.ref b_145), .val (.ref b_161), .val (.int i_185), .unset, .unset, .unset] [(.int (1 : Int32)), (.ref b_145)]))
            obtain ⟨cl_191, Ar_191, q_191, S_191, M_191, H_191, G_191⟩ := (id (V_160.keep K_188 nin0))
            have in_191 : ¬ ((1 : Int32) < 0 ∨ cl_191.slots.size ≤ ((1 : Int32)).toNatClampNeg) := inb_of S_191 ⟨by decide, by decide⟩
            refine own_via (X_183.caload hx (j := (1 : Int32)) (v := (.int e1)) Ar_191.1 (State.isArrayOf_alike hZ_183.alike Ar_191.2.1) Ar_191.2.2 in_191 (Has.at H_191 in_191 rfl) (g := (mkF m 391 #[.val (.int p1), .val (.int p2), .val (.long q3), .second, .val (.int p4), .val (.int p5), .val (.int p6), .val (.int (p1 &&& (3 : Int32))), .val (.ref b_1), .val (.int (3 : Int32)), .val (.ref b_145), .val (.ref b_161), .val (.int i_185), .unset, .unset, .unset] [(.int (1 : Int32)), (.ref b_145)])) rfl rfl (hb hby at_391)) ?_
            show own_Go p e below _ (T_183.setTop (mkF m 392 #[.val (.int p1), .val (.int p2), .val (.long q3), .second, .val (.int p4), .val (.int p5), .val (.int p6), .val (.int (p1 &&& (3 : Int32))), .val (.ref b_1), .val (.int (3 : Int32)), .val (.ref b_145), .val (.ref b_161), .val (.int i_185), .unset, .unset, .unset] [(.int e1)]))
            refine own_via (fun _ => XS.bipush X_183.here hx rfl (hb hby at_392)) ?_
            show own_Go p e below _ (T_183.setTop (mkF m 394 #[.val (.int p1), .val (.int p2), .val (.long q3), .second, .val (.int p4), .val (.int p5), .val (.int p6), .val (.int (p1 &&& (3 : Int32))), .val (.ref b_1), .val (.int (3 : Int32)), .val (.ref b_145), .val (.ref b_161), .val (.int i_185), .unset, .unset, .unset] [(.int (110 : Int32)), (.int e1)]))
            by_cases hv_192 : e1 = (110 : Int32)
            · refine own_via (fun _ => XS.icmpNo X_183.here hx rfl (hb hby at_394) rfl (teq (hv_192 : e1 = (110 : Int32))).2) ?_
              show own_Go p e below _ (T_183.setTop (mkF m 397 #[.val (.int p1), .val (.int p2), .val (.long q3), .second, .val (.int p4), .val (.int p5), .val (.int p6), .val (.int (p1 &&& (3 : Int32))), .val (.ref b_1), .val (.int (3 : Int32)), .val (.ref b_145), .val (.ref b_161), .val (.int i_185), .unset, .unset, .unset] []))
              refine own_via (fun _ => XS.aload X_183.here hx rfl (hb hby at_397) rfl rfl) ?_
              show own_Go p e below _ (T_183.setTop (mkF m 399 #[.val (.int p1), .val (.int p2), .val (.long q3), .second, .val (.int p4), .val (.int p5), .val (.int p6), .val (.int (p1 &&& (3 : Int32))), .val (.ref b_1), .val (.int (3 : Int32)), .val (.ref b_145), .val (.ref b_161), .val (.int i_185), .unset, .unset, .unset] [(.ref b_145)]))
              refine own_via (fun _ => XS.iconst X_183.here hx rfl (hb hby at_399)) ?_
              show own_Go p e below _ (T_183.setTop (mkF m 400 #[.val (.int p1), .val (.int p2), .val (.long q3), .second, .val (.int p4), .val (.int p5), .val (.int p6), .val (.int (p1 &&& (3 : Int32))), .val (.ref b_1), .val (.int (3 : Int32)), .val (.ref b_145), .val (.ref b_161), .val (.int i_185), .unset, .unset, .unset] [(.int (2 : Int32)), (.ref b_145)]))
              obtain ⟨cl_193, Ar_193, q_193, S_193, M_193, H_193, G_193⟩ := (id (V_160.keep K_188 nin0))
              have in_193 : ¬ ((2 : Int32) < 0 ∨ cl_193.slots.size ≤ ((2 : Int32)).toNatClampNeg) := inb_of S_193 ⟨by decide, by decide⟩
              refine own_via (X_183.caload hx (j := (2 : Int32)) (v := (.int e2)) Ar_193.1 (State.isArrayOf_alike hZ_183.alike Ar_193.2.1) Ar_193.2.2 in_193 (Has.at H_193 in_193 rfl) (g := (mkF m 400 #[.val (.int p1), .val (.int p2), .val (.long q3), .second, .val (.int p4), .val (.int p5), .val (.int p6), .val (.int (p1 &&& (3 : Int32))), .val (.ref b_1), .val (.int (3 : Int32)), .val (.ref b_145), .val (.ref b_161), .val (.int i_185), .unset, .unset, .unset] [(.int (2 : Int32)), (.ref b_145)])) rfl rfl (hb hby at_400)) ?_
              show own_Go p e below _ (T_183.setTop (mkF m 401 #[.val (.int p1), .val (.int p2), .val (.long q3), .second, .val (.int p4), .val (.int p5), .val (.int p6), .val (.int (p1 &&& (3 : Int32))), .val (.ref b_1), .val (.int (3 : Int32)), .val (.ref b_145), .val (.ref b_161), .val (.int i_185), .unset, .unset, .unset] [(.int e2)]))
              refine own_via (fun _ => XS.bipush X_183.here hx rfl (hb hby at_401)) ?_
              show own_Go p e below _ (T_183.setTop (mkF m 403 #[.val (.int p1), .val (.int p2), .val (.long q3), .second, .val (.int p4), .val (.int p5), .val (.int p6), .val (.int (p1 &&& (3 : Int32))), .val (.ref b_1), .val (.int (3 : Int32)), .val (.ref b_145), .val (.ref b_161), .val (.int i_185), .unset, .unset, .unset] [(.int (116 : Int32)), (.int e2)]))
              by_cases hv_194 : e2 = (116 : Int32)
              · refine own_via (fun _ => XS.icmpNo X_183.here hx rfl (hb hby at_403) rfl (teq (hv_194 : e2 = (116 : Int32))).2) ?_
                show own_Go p e below _ (T_183.setTop (mkF m 406 #[.val (.int p1), .val (.int p2), .val (.long q3), .second, .val (.int p4), .val (.int p5), .val (.int p6), .val (.int (p1 &&& (3 : Int32))), .val (.ref b_1), .val (.int (3 : Int32)), .val (.ref b_145), .val (.ref b_161), .val (.int i_185), .unset, .unset, .unset] []))
                refine own_via (fun _ => XS.iconst X_183.here hx rfl (hb hby at_406)) ?_
                show own_Go p e below _ (T_183.setTop (mkF m 407 #[.val (.int p1), .val (.int p2), .val (.long q3), .second, .val (.int p4), .val (.int p5), .val (.int p6), .val (.int (p1 &&& (3 : Int32))), .val (.ref b_1), .val (.int (3 : Int32)), .val (.ref b_145), .val (.ref b_161), .val (.int i_185), .unset, .unset, .unset] [(.int (1 : Int32))]))
                refine own_via (fun _ => XS.goto X_183.here hx rfl (pc0 := 407) (pc' := 411) rfl (hb hby at_407) (by decide) (by decide)) ?_
                show own_Go p e below _ (T_183.setTop (mkF m 411 #[.val (.int p1), .val (.int p2), .val (.long q3), .second, .val (.int p4), .val (.int p5), .val (.int p6), .val (.int (p1 &&& (3 : Int32))), .val (.ref b_1), .val (.int (3 : Int32)), .val (.ref b_145), .val (.ref b_161), .val (.int i_185), .unset, .unset, .unset] [(.int (1 : Int32))]))
                rw [if_pos hv_190] at ez13
                rw [if_pos hv_192] at ez13
                rw [if_pos hv_194] at ez13
                subst ez13
                exact kz
              · refine own_via (fun _ => XS.icmpYes X_183.here hx rfl (pc0 := 403) (pc' := 410) rfl (hb hby at_403) rfl (feq (hv_194 : ¬ (e2 = (116 : Int32)))).2 (by decide) (by decide)) ?_
                show own_Go p e below _ (T_183.setTop (mkF m 410 #[.val (.int p1), .val (.int p2), .val (.long q3), .second, .val (.int p4), .val (.int p5), .val (.int p6), .val (.int (p1 &&& (3 : Int32))), .val (.ref b_1), .val (.int (3 : Int32)), .val (.ref b_145), .val (.ref b_161), .val (.int i_185), .unset, .unset, .unset] []))
                refine own_via (fun _ => XS.iconst X_183.here hx rfl (hb hby at_410)) ?_
                show own_Go p e below _ (T_183.setTop (mkF m 411 #[.val (.int p1), .val (.int p2), .val (.long q3), .second, .val (.int p4), .val (.int p5), .val (.int p6), .val (.int (p1 &&& (3 : Int32))), .val (.ref b_1), .val (.int (3 : Int32)), .val (.ref b_145), .val (.ref b_161), .val (.int i_185), .unset, .unset, .unset] [(.int (0 : Int32))]))
                rw [if_pos hv_190] at ez13
                rw [if_pos hv_192] at ez13
                rw [if_neg hv_194] at ez13
                subst ez13
                exact kz
            · refine own_via (fun _ => XS.icmpYes X_183.here hx rfl (pc0 := 394) (pc' := 410) rfl (hb hby at_394) rfl (feq (hv_192 : ¬ (e1 = (110 : Int32)))).2 (by decide) (by decide)) ?_
              show own_Go p e below _ (T_183.setTop (mkF m 410 #[.val (.int p1), .val (.int p2), .val (.long q3), .second, .val (.int p4), .val (.int p5), .val (.int p6), .val (.int (p1 &&& (3 : Int32))), .val (.ref b_1), .val (.int (3 : Int32)), .val (.ref b_145), .val (.ref b_161), .val (.int i_185), .unset, .unset, .unset] []))
              refine own_via (fun _ => XS.iconst X_183.here hx rfl (hb hby at_410)) ?_
              show own_Go p e below _ (T_183.setTop (mkF m 411 #[.val (.int p1), .val (.int p2), .val (.long q3), .second, .val (.int p4), .val (.int p5), .val (.int p6), .val (.int (p1 &&& (3 : Int32))), .val (.ref b_1), .val (.int (3 : Int32)), .val (.ref b_145), .val (.ref b_161), .val (.int i_185), .unset, .unset, .unset] [(.int (0 : Int32))]))
              rw [if_pos hv_190] at ez13
              rw [if_neg hv_192] at ez13
              subst ez13
              exact kz
          · refine own_via (fun _ => XS.icmpYes X_183.here hx rfl (pc0 := 385) (pc' := 410) rfl (hb hby at_385) rfl (feq (hv_190 : ¬ (e0 = (105 : Int32)))).2 (by decide) (by decide)) ?_
            show own_Go p e below _ (T_183.setTop (mkF m 410 #[.val (.int p1), .val (.int p2), .val (.long q3), .second, .val (.int p4), .val (.int p5), .val (.int p6), .val (.int (p1 &&& (3 : Int32))), .val (.ref b_1), .val (.int (3 : Int32)), .val (.ref b_145), .val (.ref b_161), .val (.int i_185), .unset, .unset, .unset] []))
            refine own_via (fun _ => XS.iconst X_183.here hx rfl (hb hby at_410)) ?_
            show own_Go p e below _ (T_183.setTop (mkF m 411 #[.val (.int p1), .val (.int p2), .val (.long q3), .second, .val (.int p4), .val (.int p5), .val (.int p6), .val (.int (p1 &&& (3 : Int32))), .val (.ref b_1), .val (.int (3 : Int32)), .val (.ref b_145), .val (.ref b_161), .val (.int i_185), .unset, .unset, .unset] [(.int (0 : Int32))]))
            rw [if_neg hv_190] at ez13
            subst ez13
            exact kz
        show own_Go p e below _ (T_183.setTop (mkF m 411 #[.val (.int p1), .val (.int p2), .val (.long q3), .second, .val (.int p4), .val (.int p5), .val (.int p6), .val (.int (p1 &&& (3 : Int32))), .val (.ref b_1), .val (.int (3 : Int32)), .val (.ref b_145), .val (.ref b_161), .val (.int i_185), .unset, .unset, .unset] [(.int z13)]))
        refine own_via (fun _ => XS.istore X_183.here hx rfl (hb hby at_411) rfl (l' := #[.val (.int p1), .val (.int p2), .val (.long q3), .second, .val (.int p4), .val (.int p5), .val (.int p6), .val (.int (p1 &&& (3 : Int32))), .val (.ref b_1), .val (.int (3 : Int32)), .val (.ref b_145), .val (.ref b_161), .val (.int i_185), .val (.int z13), .unset, .unset]) rfl) ?_
        show own_Go p e below _ (T_183.setTop (mkF m 413 #[.val (.int p1), .val (.int p2), .val (.long q3), .second, .val (.int p4), .val (.int p5), .val (.int p6), .val (.int (p1 &&& (3 : Int32))), .val (.ref b_1), .val (.int (3 : Int32)), .val (.ref b_145), .val (.ref b_161), .val (.int i_185), .val (.int z13), .unset, .unset] []))
        refine own_via (fun _ => XS.iload X_183.here hx rfl (hb hby at_413) rfl) ?_
        show own_Go p e below _ (T_183.setTop (mkF m 415 #[.val (.int p1), .val (.int p2), .val (.long q3), .second, .val (.int p4), .val (.int p5), .val (.int p6), .val (.int (p1 &&& (3 : Int32))), .val (.ref b_1), .val (.int (3 : Int32)), .val (.ref b_145), .val (.ref b_161), .val (.int i_185), .val (.int z13), .unset, .unset] [(.int (3 : Int32))]))
        refine own_via (fun _ => XS.bipush X_183.here hx rfl (hb hby at_415)) ?_
        show own_Go p e below _ (T_183.setTop (mkF m 417 #[.val (.int p1), .val (.int p2), .val (.long q3), .second, .val (.int p4), .val (.int p5), .val (.int p6), .val (.int (p1 &&& (3 : Int32))), .val (.ref b_1), .val (.int (3 : Int32)), .val (.ref b_145), .val (.ref b_161), .val (.int i_185), .val (.int z13), .unset, .unset] [(.int (7 : Int32)), (.int (3 : Int32))]))
        obtain ⟨z14, ez14⟩ : ∃ z : Int32, z = (0 : Int32) := ⟨_, rfl⟩
        refine own_seq (B := T_183.setTop (mkF m 489 #[.val (.int p1), .val (.int p2), .val (.long q3), .second, .val (.int p4), .val (.int p5), .val (.int p6), .val (.int (p1 &&& (3 : Int32))), .val (.ref b_1), .val (.int (3 : Int32)), .val (.ref b_145), .val (.ref b_161), .val (.int i_185), .val (.int z13), .unset, .unset] [(.int z14)])) (fun kz => ?_) ?_
        · refine own_via (fun _ => XS.icmpYes X_183.here hx rfl (pc0 := 417) (pc' := 488) rfl (hb hby at_417) rfl (feq ((by decide) : ¬ ((3 : Int32) = (7 : Int32)))).2 (by decide) (by decide)) ?_
          show own_Go p e below _ (T_183.setTop (mkF m 488 #[.val (.int p1), .val (.int p2), .val (.long q3), .second, .val (.int p4), .val (.int p5), .val (.int p6), .val (.int (p1 &&& (3 : Int32))), .val (.ref b_1), .val (.int (3 : Int32)), .val (.ref b_145), .val (.ref b_161), .val (.int i_185), .val (.int z13), .unset, .unset] []))
          refine own_via (fun _ => XS.iconst X_183.here hx rfl (hb hby at_488)) ?_
          show own_Go p e below _ (T_183.setTop (mkF m 489 #[.val (.int p1), .val (.int p2), .val (.long q3), .second, .val (.int p4), .val (.int p5), .val (.int p6), .val (.int (p1 &&& (3 : Int32))), .val (.ref b_1), .val (.int (3 : Int32)), .val (.ref b_145), .val (.ref b_161), .val (.int i_185), .val (.int z13), .unset, .unset] [(.int (0 : Int32))]))
          subst ez14
          exact kz
        show own_Go p e below _ (T_183.setTop (mkF m 489 #[.val (.int p1), .val (.int p2), .val (.long q3), .second, .val (.int p4), .val (.int p5), .val (.int p6), .val (.int (p1 &&& (3 : Int32))), .val (.ref b_1), .val (.int (3 : Int32)), .val (.ref b_145), .val (.ref b_161), .val (.int i_185), .val (.int z13), .unset, .unset] [(.int z14)]))
        refine own_via (fun _ => XS.istore X_183.here hx rfl (hb hby at_489) rfl (l' := #[.val (.int p1), .val (.int p2), .val (.long q3), .second, .val (.int p4), .val (.int p5), .val (.int p6), .val (.int (p1 &&& (3 : Int32))), .val (.ref b_1), .val (.int (3 : Int32)), .val (.ref b_145), .val (.ref b_161), .val (.int i_185), .val (.int z13), .val (.int z14), .unset]) rfl) ?_
        show own_Go p e below _ (T_183.setTop (mkF m 491 #[.val (.int p1), .val (.int p2), .val (.long q3), .second, .val (.int p4), .val (.int p5), .val (.int p6), .val (.int (p1 &&& (3 : Int32))), .val (.ref b_1), .val (.int (3 : Int32)), .val (.ref b_145), .val (.ref b_161), .val (.int i_185), .val (.int z13), .val (.int z14), .unset] []))
        refine own_via (fun _ => XS.iload X_183.here hx rfl (hb hby at_491) rfl) ?_
        show own_Go p e below _ (T_183.setTop (mkF m 493 #[.val (.int p1), .val (.int p2), .val (.long q3), .second, .val (.int p4), .val (.int p5), .val (.int p6), .val (.int (p1 &&& (3 : Int32))), .val (.ref b_1), .val (.int (3 : Int32)), .val (.ref b_145), .val (.ref b_161), .val (.int i_185), .val (.int z13), .val (.int z14), .unset] [(.int z13)]))
        obtain ⟨z15, ez15⟩ : ∃ z : Int32, z = (if z13 = (0 : Int32) then (if z14 = (0 : Int32) then (1 : Int32) else (0 : Int32)) else (0 : Int32)) := ⟨_, rfl⟩
        refine own_seq (B := T_183.setTop (mkF m 506 #[.val (.int p1), .val (.int p2), .val (.long q3), .second, .val (.int p4), .val (.int p5), .val (.int p6), .val (.int (p1 &&& (3 : Int32))), .val (.ref b_1), .val (.int (3 : Int32)), .val (.ref b_145), .val (.ref b_161), .val (.int i_185), .val (.int z13), .val (.int z14), .unset] [(.int z15)])) (fun kz => ?_) ?_
        · by_cases hv_195 : z13 = (0 : Int32)
          · refine own_via (fun _ => XS.ifNo X_183.here hx rfl (hb hby at_493) rfl ((if0 _ _).trans (teq (hv_195 : z13 = (0 : Int32))).2)) ?_
            show own_Go p e below _ (T_183.setTop (mkF m 496 #[.val (.int p1), .val (.int p2), .val (.long q3), .second, .val (.int p4), .val (.int p5), .val (.int p6), .val (.int (p1 &&& (3 : Int32))), .val (.ref b_1), .val (.int (3 : Int32)), .val (.ref b_145), .val (.ref b_161), .val (.int i_185), .val (.int z13), .val (.int z14), .unset] []))
            refine own_via (fun _ => XS.iload X_183.here hx rfl (hb hby at_496) rfl) ?_
            show own_Go p e below _ (T_183.setTop (mkF m 498 #[.val (.int p1), .val (.int p2), .val (.long q3), .second, .val (.int p4), .val (.int p5), .val (.int p6), .val (.int (p1 &&& (3 : Int32))), .val (.ref b_1), .val (.int (3 : Int32)), .val (.ref b_145), .val (.ref b_161), .val (.int i_185), .val (.int z13), .val (.int z14), .unset] [(.int z14)]))
            by_cases hv_196 : z14 = (0 : Int32)
            · refine own_via (fun _ => XS.ifNo X_183.here hx rfl (hb hby at_498) rfl ((if0 _ _).trans (teq (hv_196 : z14 = (0 : Int32))).2)) ?_
              show own_Go p e below _ (T_183.setTop (mkF m 501 #[.val (.int p1), .val (.int p2), .val (.long q3), .second, .val (.int p4), .val (.int p5), .val (.int p6), .val (.int (p1 &&& (3 : Int32))), .val (.ref b_1), .val (.int (3 : Int32)), .val (.ref b_145), .val (.ref b_161), .val (.int i_185), .val (.int z13), .val (.int z14), .unset] []))
              refine own_via (fun _ => XS.iconst X_183.here hx rfl (hb hby at_501)) ?_
              show own_Go p e below _ (T_183.setTop (mkF m 502 #[.val (.int p1), .val (.int p2), .val (.long q3), .second, .val (.int p4), .val (.int p5), .val (.int p6), .val (.int (p1 &&& (3 : Int32))), .val (.ref b_1), .val (.int (3 : Int32)), .val (.ref b_145), .val (.ref b_161), .val (.int i_185), .val (.int z13), .val (.int z14), .unset] [(.int (1 : Int32))]))
              refine own_via (fun _ => XS.goto X_183.here hx rfl (pc0 := 502) (pc' := 506) rfl (hb hby at_502) (by decide) (by decide)) ?_
              show own_Go p e below _ (T_183.setTop (mkF m 506 #[.val (.int p1), .val (.int p2), .val (.long q3), .second, .val (.int p4), .val (.int p5), .val (.int p6), .val (.int (p1 &&& (3 : Int32))), .val (.ref b_1), .val (.int (3 : Int32)), .val (.ref b_145), .val (.ref b_161), .val (.int i_185), .val (.int z13), .val (.int z14), .unset] [(.int (1 : Int32))]))
              rw [if_pos hv_195] at ez15
              rw [if_pos hv_196] at ez15
              subst ez15
              exact kz
            · refine own_via (fun _ => XS.ifYes X_183.here hx rfl (pc0 := 498) (pc' := 505) rfl (hb hby at_498) rfl ((if0 _ _).trans (feq (hv_196 : ¬ (z14 = (0 : Int32)))).2) (by decide) (by decide)) ?_
              show own_Go p e below _ (T_183.setTop (mkF m 505 #[.val (.int p1), .val (.int p2), .val (.long q3), .second, .val (.int p4), .val (.int p5), .val (.int p6), .val (.int (p1 &&& (3 : Int32))), .val (.ref b_1), .val (.int (3 : Int32)), .val (.ref b_145), .val (.ref b_161), .val (.int i_185), .val (.int z13), .val (.int z14), .unset] []))
              refine own_via (fun _ => XS.iconst X_183.here hx rfl (hb hby at_505)) ?_
              show own_Go p e below _ (T_183.setTop (mkF m 506 #[.val (.int p1), .val (.int p2), .val (.long q3), .second, .val (.int p4), .val (.int p5), .val (.int p6), .val (.int (p1 &&& (3 : Int32))), .val (.ref b_1), .val (.int (3 : Int32)), .val (.ref b_145), .val (.ref b_161), .val (.int i_185), .val (.int z13), .val (.int z14), .unset] [(.int (0 : Int32))]))
              rw [if_pos hv_195] at ez15
              rw [if_neg hv_196] at ez15
              subst ez15
              exact kz
          · refine own_via (fun _ => XS.ifYes X_183.here hx rfl (pc0 := 493) (pc' := 505) rfl (hb hby at_493) rfl ((if0 _ _).trans (feq (hv_195 : ¬ (z13 = (0 : Int32)))).2) (by decide) (by decide)) ?_
            show own_Go p e below _ (T_183.setTop (mkF m 505 #[.val (.int p1), .val (.int p2), .val (.long q3), .second, .val (.int p4), .val (.int p5), .val (.int p6), .val (.int (p1 &&& (3 : Int32))), .val (.ref b_1), .val (.int (3 : Int32)), .val (.ref b_145), .val (.ref b_161), .val (.int i_185), .val (.int z13), .val (.int z14), .unset] []))
            refine own_via (fun _ => XS.iconst X_183.here hx rfl (hb hby at_505)) ?_
            show own_Go p e below _ (T_183.setTop (mkF m 506 #[.val (.int p1), .val (.int p2), .val (.long q3), .second, .val (.int p4), .val (.int p5), .val (.int p6), .val (.int (p1 &&& (3 : Int32))), .val (.ref b_1), .val (.int (3 : Int32)), .val (.ref b_145), .val (.ref b_161), .val (.int i_185), .val (.int z13), .val (.int z14), .unset] [(.int (0 : Int32))]))
            rw [if_neg hv_195] at ez15
            subst ez15
            exact kz
        show own_Go p e below _ (T_183.setTop (mkF m 506 #[.val (.int p1), .val (.int p2), .val (.long q3), .second, .val (.int p4), .val (.int p5), .val (.int p6), .val (.int (p1 &&& (3 : Int32))), .val (.ref b_1), .val (.int (3 : Int32)), .val (.ref b_145), .val (.ref b_161), .val (.int i_185), .val (.int z13), .val (.int z14), .unset] [(.int z15)]))
        refine own_via (fun _ => XS.istore X_183.here hx rfl (hb hby at_506) rfl (l' := #[.val (.int p1), .val (.int p2), .val (.long q3), .second, .val (.int p4), .val (.int p5), .val (.int p6), .val (.int (p1 &&& (3 : Int32))), .val (.ref b_1), .val (.int (3 : Int32)), .val (.ref b_145), .val (.ref b_161), .val (.int i_185), .val (.int z13), .val (.int z14), .val (.int z15)]) rfl) ?_
        show own_Go p e below _ (T_183.setTop (mkF m 508 #[.val (.int p1), .val (.int p2), .val (.long q3), .second, .val (.int p4), .val (.int p5), .val (.int p6), .val (.int (p1 &&& (3 : Int32))), .val (.ref b_1), .val (.int (3 : Int32)), .val (.ref b_145), .val (.ref b_161), .val (.int i_185), .val (.int z13), .val (.int z14), .val (.int z15)] []))
        refine own_via (fun _ => XS.iload X_183.here hx rfl (hb hby at_508) rfl) ?_
        show own_Go p e below _ (T_183.setTop (mkF m 510 #[.val (.int p1), .val (.int p2), .val (.long q3), .second, .val (.int p4), .val (.int p5), .val (.int p6), .val (.int (p1 &&& (3 : Int32))), .val (.ref b_1), .val (.int (3 : Int32)), .val (.ref b_145), .val (.ref b_161), .val (.int i_185), .val (.int z13), .val (.int z14), .val (.int z15)] [(.int i_185)]))
        refine own_via (fun _ => XS.iload X_183.here hx rfl (hb hby at_510) rfl) ?_
        show own_Go p e below _ (T_183.setTop (mkF m 512 #[.val (.int p1), .val (.int p2), .val (.long q3), .second, .val (.int p4), .val (.int p5), .val (.int p6), .val (.int (p1 &&& (3 : Int32))), .val (.ref b_1), .val (.int (3 : Int32)), .val (.ref b_145), .val (.ref b_161), .val (.int i_185), .val (.int z13), .val (.int z14), .val (.int z15)] [(.int z15), (.int i_185)]))
        refine own_via (fun _ => XS.icmpNo X_183.here hx rfl (hb hby at_512) rfl (teq (own_fin q_183_0 (own_i3 ez13) (own_no (by simp) ez14) ez15 : i_185 = z15)).2) ?_
        show own_Go p e below _ (T_183.setTop (mkF m 515 #[.val (.int p1), .val (.int p2), .val (.long q3), .second, .val (.int p4), .val (.int p5), .val (.int p6), .val (.int (p1 &&& (3 : Int32))), .val (.ref b_1), .val (.int (3 : Int32)), .val (.ref b_145), .val (.ref b_161), .val (.int i_185), .val (.int z13), .val (.int z14), .val (.int z15)] []))
        refine own_via (fun _ => XS.iconst X_183.here hx rfl (hb hby at_515)) ?_
        show own_Go p e below _ (T_183.setTop (mkF m 516 #[.val (.int p1), .val (.int p2), .val (.long q3), .second, .val (.int p4), .val (.int p5), .val (.int p6), .val (.int (p1 &&& (3 : Int32))), .val (.ref b_1), .val (.int (3 : Int32)), .val (.ref b_145), .val (.ref b_161), .val (.int i_185), .val (.int z13), .val (.int z14), .val (.int z15)] [(.int (1 : Int32))]))
        refine own_via (fun _ => XS.goto X_183.here hx rfl (pc0 := 516) (pc' := 520) rfl (hb hby at_516) (by decide) (by decide)) ?_
        show own_Go p e below _ (T_183.setTop (mkF m 520 #[.val (.int p1), .val (.int p2), .val (.long q3), .second, .val (.int p4), .val (.int p5), .val (.int p6), .val (.int (p1 &&& (3 : Int32))), .val (.ref b_1), .val (.int (3 : Int32)), .val (.ref b_145), .val (.ref b_161), .val (.int i_185), .val (.int z13), .val (.int z14), .val (.int z15)] [(.int (1 : Int32))]))
        have K_197 : Keep h0 T_183.heap [] := Keep.trans (ws := []) K_182 K_183q all0
        exact own_retvW X_183 hS_183 (Nat.le_refl _) Bd.notSynchronized hx Bd.returns rfl (Or.inl ⟨rfl, (by simp), _, rfl⟩) (hb hby at_520) (by decide) (by decide) ⟨rfl, N_183, K_197⟩
      · show own_Go p e below _ (T_36.setTop (mkF m 228 #[.val (.int p1), .val (.int p2), .val (.long q3), .second, .val (.int p4), .val (.int p5), .val (.int p6), .val (.int (p1 &&& (3 : Int32))), .val (.ref b_1), .val (.int (4 : Int32)), .unset, .unset, .unset, .unset, .unset, .unset] []))
        refine own_via (fun _ => XS.iload X_39.here hx rfl (hb hby at_228) rfl) ?_
        show own_Go p e below _ (T_36.setTop (mkF m 230 #[.val (.int p1), .val (.int p2), .val (.long q3), .second, .val (.int p4), .val (.int p5), .val (.int p6), .val (.int (p1 &&& (3 : Int32))), .val (.ref b_1), .val (.int (4 : Int32)), .unset, .unset, .unset, .unset, .unset, .unset] [(.int (4 : Int32))]))
        refine own_via (fun _ => XS.bipush X_39.here hx rfl (hb hby at_230)) ?_
        show own_Go p e below _ (T_36.setTop (mkF m 232 #[.val (.int p1), .val (.int p2), .val (.long q3), .second, .val (.int p4), .val (.int p5), .val (.int p6), .val (.int (p1 &&& (3 : Int32))), .val (.ref b_1), .val (.int (4 : Int32)), .unset, .unset, .unset, .unset, .unset, .unset] [(.int (7 : Int32)), (.int (4 : Int32))]))
        refine own_via (fun _ => XS.icmpYes X_39.here hx rfl (pc0 := 232) (pc' := 239) rfl (hb hby at_232) rfl (flt ((by decide) : ¬ ((7 : Int32) < (4 : Int32)))).2.2.2 (by decide) (by decide)) ?_
        show own_Go p e below _ (T_36.setTop (mkF m 239 #[.val (.int p1), .val (.int p2), .val (.long q3), .second, .val (.int p4), .val (.int p5), .val (.int p6), .val (.int (p1 &&& (3 : Int32))), .val (.ref b_1), .val (.int (4 : Int32)), .unset, .unset, .unset, .unset, .unset, .unset] []))
        refine own_via (fun _ => XS.iload X_39.here hx rfl (hb hby at_239) rfl) ?_
        show own_Go p e below _ (T_36.setTop (mkF m 241 #[.val (.int p1), .val (.int p2), .val (.long q3), .second, .val (.int p4), .val (.int p5), .val (.int p6), .val (.int (p1 &&& (3 : Int32))), .val (.ref b_1), .val (.int (4 : Int32)), .unset, .unset, .unset, .unset, .unset, .unset] [(.int (4 : Int32))]))
        obtain ⟨T_198, h_198, k_198, X_198, e_198, E_198, A_198, st_198⟩ := newP X_39 hx hZ (own_w hw 0 rfl) e_39 (g := (mkF m 241 #[.val (.int p1), .val (.int p2), .val (.long q3), .second, .val (.int p4), .val (.int p5), .val (.int p6), .val (.int (p1 &&& (3 : Int32))), .val (.ref b_1), .val (.int (4 : Int32)), .unset, .unset, .unset, .unset, .unset, .unset] [(.int (4 : Int32))])) rfl (hb hby at_241) rfl (by decide) (cap := 4) (by decide) (by decide) (by decide) (by decide)
        obtain ⟨b_198, g_198⟩ : ∃ z, z = h_38.size := ⟨_, rfl⟩
        rw [← g_198] at A_198 st_198
        have V_198 : Arv Z h_198 b_198 k_198 .char (4 : Int32) [(.int (0 : Int32)), (.int (0 : Int32)), (.int (0 : Int32)), (.int (0 : Int32))] (.int (0 : Int32)) := (Arv.new A_198 (by decide)).pad (pad_rep [] (.int (0 : Int32)) 4)
        refine own_via st_198 ?_
        show own_Go p e below _ (T_198.setTop (mkF m 243 #[.val (.int p1), .val (.int p2), .val (.long q3), .second, .val (.int p4), .val (.int p5), .val (.int p6), .val (.int (p1 &&& (3 : Int32))), .val (.ref b_1), .val (.int (4 : Int32)), .unset, .unset, .unset, .unset, .unset, .unset] [(.ref b_198)]))
        refine own_via (fun _ => XS.astore X_198.here hx rfl (hb hby at_243) rfl rfl (l' := #[.val (.int p1), .val (.int p2), .val (.long q3), .second, .val (.int p4), .val (.int p5), .val (.int p6), .val (.int (p1 &&& (3 : Int32))), .val (.ref b_1), .val (.int (4 : Int32)), .val (.ref b_198), .unset, .unset, .unset, .unset, .unset]) rfl) ?_
        show own_Go p e below _ (T_198.setTop (mkF m 245 #[.val (.int p1), .val (.int p2), .val (.long q3), .second, .val (.int p4), .val (.int p5), .val (.int p6), .val (.int (p1 &&& (3 : Int32))), .val (.ref b_1), .val (.int (4 : Int32)), .val (.ref b_198), .unset, .unset, .unset, .unset, .unset] []))
        refine own_via (fun _ => XS.iload X_198.here hx rfl (hb hby at_245) rfl) ?_
        show own_Go p e below _ (T_198.setTop (mkF m 247 #[.val (.int p1), .val (.int p2), .val (.long q3), .second, .val (.int p4), .val (.int p5), .val (.int p6), .val (.int (p1 &&& (3 : Int32))), .val (.ref b_1), .val (.int (4 : Int32)), .val (.ref b_198), .unset, .unset, .unset, .unset, .unset] [(.int (4 : Int32))]))
        refine own_via (fun _ => XS.ifNo X_198.here hx rfl (hb hby at_247) rfl ((if0 _ _).trans (tlt ((by decide) : (0 : Int32) < (4 : Int32))).2.2.2)) ?_
        show own_Go p e below _ (T_198.setTop (mkF m 250 #[.val (.int p1), .val (.int p2), .val (.long q3), .second, .val (.int p4), .val (.int p5), .val (.int p6), .val (.int (p1 &&& (3 : Int32))), .val (.ref b_1), .val (.int (4 : Int32)), .val (.ref b_198), .unset, .unset, .unset, .unset, .unset] []))
        refine own_via (fun _ => XS.aload X_198.here hx rfl (hb hby at_250) rfl rfl) ?_
        show own_Go p e below _ (T_198.setTop (mkF m 252 #[.val (.int p1), .val (.int p2), .val (.long q3), .second, .val (.int p4), .val (.int p5), .val (.int p6), .val (.int (p1 &&& (3 : Int32))), .val (.ref b_1), .val (.int (4 : Int32)), .val (.ref b_198), .unset, .unset, .unset, .unset, .unset] [(.ref b_198)]))
        refine own_via (fun _ => XS.iconst X_198.here hx rfl (hb hby at_252)) ?_
        show own_Go p e below _ (T_198.setTop (mkF m 253 #[.val (.int p1), .val (.int p2), .val (.long q3), .second, .val (.int p4), .val (.int p5), .val (.int p6), .val (.int (p1 &&& (3 : Int32))), .val (.ref b_1), .val (.int (4 : Int32)), .val (.ref b_198), .unset, .unset, .unset, .unset, .unset] [(.int (0 : Int32)), (.ref b_198)]))
        refine own_via (fun _ => XS.aload X_198.here hx rfl (hb hby at_253) rfl rfl) ?_
        show own_Go p e below _ (T_198.setTop (mkF m 255 #[.val (.int p1), .val (.int p2), .val (.long q3), .second, .val (.int p4), .val (.int p5), .val (.int p6), .val (.int (p1 &&& (3 : Int32))), .val (.ref b_1), .val (.int (4 : Int32)), .val (.ref b_198), .unset, .unset, .unset, .unset, .unset] [(.ref b_1), (.int (0 : Int32)), (.ref b_198)]))
        refine own_via (fun _ => XS.iconst X_198.here hx rfl (hb hby at_255)) ?_
        show own_Go p e below _ (T_198.setTop (mkF m 256 #[.val (.int p1), .val (.int p2), .val (.long q3), .second, .val (.int p4), .val (.int p5), .val (.int p6), .val (.int (p1 &&& (3 : Int32))), .val (.ref b_1), .val (.int (4 : Int32)), .val (.ref b_198), .unset, .unset, .unset, .unset, .unset] [(.int (0 : Int32)), (.ref b_1), (.int (0 : Int32)), (.ref b_198)]))
        have K_199 : Keep h_38 h_198 [] := (Keep.refl h_38 []).ext E_198
        obtain ⟨cl_200, Ar_200, q_200, S_200, M_200, H_200, G_200⟩ := (id (VE.keep K_199 nin0))
        have in_200 : ¬ ((0 : Int32) < 0 ∨ cl_200.slots.size ≤ ((0 : Int32)).toNatClampNeg) := inb_of S_200 ⟨by decide, by decide⟩
        refine own_via (X_198.caload hx (j := (0 : Int32)) (v := (.int e0)) (by rw [e_198]; exact Ar_200.1) (State.isArrayOf_alike hZ.alike Ar_200.2.1) Ar_200.2.2 in_200 (Has.at H_200 in_200 rfl) (g := (mkF m 256 #[.val (.int p1), .val (.int p2), .val (.long q3), .second, .val (.int p4), .val (.int p5), .val (.int p6), .val (.int (p1 &&& (3 : Int32))), .val (.ref b_1), .val (.int (4 : Int32)), .val (.ref b_198), .unset, .unset, .unset, .unset, .unset] [(.int (0 : Int32)), (.ref b_1), (.int (0 : Int32)), (.ref b_198)])) rfl rfl (hb hby at_256)) ?_
        show own_Go p e below _ (T_198.setTop (mkF m 257 #[.val (.int p1), .val (.int p2), .val (.long q3), .second, .val (.int p4), .val (.int p5), .val (.int p6), .val (.int (p1 &&& (3 : Int32))), .val (.ref b_1), .val (.int (4 : Int32)), .val (.ref b_198), .unset, .unset, .unset, .unset, .unset] [(.int e0), (.int (0 : Int32)), (.ref b_198)]))
        obtain ⟨cl_201, Ar_201, q_201, S_201, M_201, H_201, G_201⟩ := (id V_198)
        obtain ⟨T_201, h_201, X_201, e_201, W_201, st_201⟩ := stC X_198 hx hZ e_198 Ar_201 (j := (0 : Int32)) (inb_of S_201 ⟨by decide, by decide⟩) (g := (mkF m 257 #[.val (.int p1), .val (.int p2), .val (.long q3), .second, .val (.int p4), .val (.int p5), .val (.int p6), .val (.int (p1 &&& (3 : Int32))), .val (.ref b_1), .val (.int (4 : Int32)), .val (.ref b_198), .unset, .unset, .unset, .unset, .unset] [(.int e0), (.int (0 : Int32)), (.ref b_198)])) rfl rfl (hb hby at_257)
        have V_201 : Arv Z h_201 b_198 k_198 .char (4 : Int32) [(.int (nar .char e0)), (.int (0 : Int32)), (.int (0 : Int32)), (.int (0 : Int32))] (.int (0 : Int32)) := Arv.set Ar_201 q_201 S_201 M_201 H_201 G_201 (fits_nar_char _) W_201 0 rfl (Nat.le_of_ble_eq_true rfl)
        have K_202 : Keep h0 h_28 [] := Keep.wr (ws := []) K_26 W_28 (Or.inr (Nat.le_of_eq g_1.symm))
        have K_203 : Keep h0 h_33 [] := Keep.trans (ws := []) K_202 K_34 (allS (Or.inr (Nat.le_of_eq g_1.symm)) all0)
        have K_204 : Keep h0 h_38 [] := Keep.trans (ws := []) K_203 K_39 (allS (Or.inr (Nat.le_of_eq g_1.symm)) all0)
        have N_201 := Fr.snoc X_201 N_39 (Nat.le_trans Z0 (Nat.le_trans K_204.1 (Nat.le_of_eq g_198.symm)))
        refine own_via st_201 ?_
        show own_Go p e below _ (T_201.setTop (mkF m 258 #[.val (.int p1), .val (.int p2), .val (.long q3), .second, .val (.int p4), .val (.int p5), .val (.int p6), .val (.int (p1 &&& (3 : Int32))), .val (.ref b_1), .val (.int (4 : Int32)), .val (.ref b_198), .unset, .unset, .unset, .unset, .unset] []))
        have V_205 : Arv Z h_201 b_198 k_198 .char (4 : Int32) [(.int e0), (.int (0 : Int32)), (.int (0 : Int32)), (.int (0 : Int32))] (.int (0 : Int32)) := by have q := V_201; rwa [own_nar he0] at q
        refine own_via (fun _ => XS.iload X_201.here hx rfl (hb hby at_258) rfl) ?_
        show own_Go p e below _ (T_201.setTop (mkF m 260 #[.val (.int p1), .val (.int p2), .val (.long q3), .second, .val (.int p4), .val (.int p5), .val (.int p6), .val (.int (p1 &&& (3 : Int32))), .val (.ref b_1), .val (.int (4 : Int32)), .val (.ref b_198), .unset, .unset, .unset, .unset, .unset] [(.int (4 : Int32))]))
        refine own_via (fun _ => XS.iconst X_201.here hx rfl (hb hby at_260)) ?_
        show own_Go p e below _ (T_201.setTop (mkF m 261 #[.val (.int p1), .val (.int p2), .val (.long q3), .second, .val (.int p4), .val (.int p5), .val (.int p6), .val (.int (p1 &&& (3 : Int32))), .val (.ref b_1), .val (.int (4 : Int32)), .val (.ref b_198), .unset, .unset, .unset, .unset, .unset] [(.int (1 : Int32)), (.int (4 : Int32))]))
        refine own_via (fun _ => XS.icmpNo X_201.here hx rfl (hb hby at_261) rfl (tlt ((by decide) : (1 : Int32) < (4 : Int32))).2.2.2) ?_
        show own_Go p e below _ (T_201.setTop (mkF m 264 #[.val (.int p1), .val (.int p2), .val (.long q3), .second, .val (.int p4), .val (.int p5), .val (.int p6), .val (.int (p1 &&& (3 : Int32))), .val (.ref b_1), .val (.int (4 : Int32)), .val (.ref b_198), .unset, .unset, .unset, .unset, .unset] []))
        refine own_via (fun _ => XS.aload X_201.here hx rfl (hb hby at_264) rfl rfl) ?_
        show own_Go p e below _ (T_201.setTop (mkF m 266 #[.val (.int p1), .val (.int p2), .val (.long q3), .second, .val (.int p4), .val (.int p5), .val (.int p6), .val (.int (p1 &&& (3 : Int32))), .val (.ref b_1), .val (.int (4 : Int32)), .val (.ref b_198), .unset, .unset, .unset, .unset, .unset] [(.ref b_198)]))
        refine own_via (fun _ => XS.iconst X_201.here hx rfl (hb hby at_266)) ?_
        show own_Go p e below _ (T_201.setTop (mkF m 267 #[.val (.int p1), .val (.int p2), .val (.long q3), .second, .val (.int p4), .val (.int p5), .val (.int p6), .val (.int (p1 &&& (3 : Int32))), .val (.ref b_1), .val (.int (4 : Int32)), .val (.ref b_198), .unset, .unset, .unset, .unset, .unset] [(.int (1 : Int32)), (.ref b_198)]))
        refine own_via (fun _ => XS.aload X_201.here hx rfl (hb hby at_267) rfl rfl) ?_
        show own_Go p e below _ (T_201.setTop (mkF m 269 #[.val (.int p1), .val (.int p2), .val (.long q3), .second, .val (.int p4), .val (.int p5), .val (.int p6), .val (.int (p1 &&& (3 : Int32))), .val (.ref b_1), .val (.int (4 : Int32)), .val (.ref b_198), .unset, .unset, .unset, .unset, .unset] [(.ref b_1), (.int (1 : Int32)), (.ref b_198)]))
        refine own_via (fun _ => XS.iconst X_201.here hx rfl (hb hby at_269)) ?_
        show own_Go p e below _ (T_201.setTop (mkF m 270 #[.val (.int p1), .val (.int p2), .val (.long q3), .second, .val (.int p4), .val (.int p5), .val (.int p6), .val (.int (p1 &&& (3 : Int32))), .val (.ref b_1), .val (.int (4 : Int32)), .val (.ref b_198), .unset, .unset, .unset, .unset, .unset] [(.int (1 : Int32)), (.ref b_1), (.int (1 : Int32)), (.ref b_198)]))
        have K_206 : Keep h_38 h_201 [] := Keep.wr (ws := []) K_199 W_201 (Or.inr (Nat.le_of_eq g_198.symm))
        obtain ⟨cl_207, Ar_207, q_207, S_207, M_207, H_207, G_207⟩ := (id (VE.keep K_206 nin0))
        have in_207 : ¬ ((1 : Int32) < 0 ∨ cl_207.slots.size ≤ ((1 : Int32)).toNatClampNeg) := inb_of S_207 ⟨by decide, by decide⟩
        refine own_via (X_201.caload hx (j := (1 : Int32)) (v := (.int e1)) (by rw [e_201]; exact Ar_207.1) (State.isArrayOf_alike hZ.alike Ar_207.2.1) Ar_207.2.2 in_207 (Has.at H_207 in_207 rfl) (g := (mkF m 270 #[.val (.int p1), .val (.int p2), .val (.long q3), .second, .val (.int p4), .val (.int p5), .val (.int p6), .val (.int (p1 &&& (3 : Int32))), .val (.ref b_1), .val (.int (4 : Int32)), .val (.ref b_198), .unset, .unset, .unset, .unset, .unset] [(.int (1 : Int32)), (.ref b_1), (.int (1 : Int32)), (.ref b_198)])) rfl rfl (hb hby at_270)) ?_
        show own_Go p e below _ (T_201.setTop (mkF m 271 #[.val (.int p1), .val (.int p2), .val (.long q3), .second, .val (.int p4), .val (.int p5), .val (.int p6), .val (.int (p1 &&& (3 : Int32))), .val (.ref b_1), .val (.int (4 : Int32)), .val (.ref b_198), .unset, .unset, .unset, .unset, .unset] [(.int e1), (.int (1 : Int32)), (.ref b_198)]))
        obtain ⟨cl_208, Ar_208, q_208, S_208, M_208, H_208, G_208⟩ := (id V_205)
        obtain ⟨T_208, h_208, X_208, e_208, W_208, st_208⟩ := stC X_201 hx hZ e_201 Ar_208 (j := (1 : Int32)) (inb_of S_208 ⟨by decide, by decide⟩) (g := (mkF m 271 #[.val (.int p1), .val (.int p2), .val (.long q3), .second, .val (.int p4), .val (.int p5), .val (.int p6), .val (.int (p1 &&& (3 : Int32))), .val (.ref b_1), .val (.int (4 : Int32)), .val (.ref b_198), .unset, .unset, .unset, .unset, .unset] [(.int e1), (.int (1 : Int32)), (.ref b_198)])) rfl rfl (hb hby at_271)
        have V_208 : Arv Z h_208 b_198 k_198 .char (4 : Int32) [(.int e0), (.int (nar .char e1)), (.int (0 : Int32)), (.int (0 : Int32))] (.int (0 : Int32)) := Arv.set Ar_208 q_208 S_208 M_208 H_208 G_208 (fits_nar_char _) W_208 1 rfl (Nat.le_of_ble_eq_true rfl)
        have N_208 := Fr.snoc X_208 N_201 (Nat.le_trans Z0 (Nat.le_trans K_204.1 (Nat.le_of_eq g_198.symm)))
        refine own_via st_208 ?_
        show own_Go p e below _ (T_208.setTop (mkF m 272 #[.val (.int p1), .val (.int p2), .val (.long q3), .second, .val (.int p4), .val (.int p5), .val (.int p6), .val (.int (p1 &&& (3 : Int32))), .val (.ref b_1), .val (.int (4 : Int32)), .val (.ref b_198), .unset, .unset, .unset, .unset, .unset] []))
        have V_209 : Arv Z h_208 b_198 k_198 .char (4 : Int32) [(.int e0), (.int e1), (.int (0 : Int32)), (.int (0 : Int32))] (.int (0 : Int32)) := by have q := V_208; rwa [own_nar he1] at q
        refine own_via (fun _ => XS.iload X_208.here hx rfl (hb hby at_272) rfl) ?_
        show own_Go p e below _ (T_208.setTop (mkF m 274 #[.val (.int p1), .val (.int p2), .val (.long q3), .second, .val (.int p4), .val (.int p5), .val (.int p6), .val (.int (p1 &&& (3 : Int32))), .val (.ref b_1), .val (.int (4 : Int32)), .val (.ref b_198), .unset, .unset, .unset, .unset, .unset] [(.int (4 : Int32))]))
        refine own_via (fun _ => XS.iconst X_208.here hx rfl (hb hby at_274)) ?_
        show own_Go p e below _ (T_208.setTop (mkF m 275 #[.val (.int p1), .val (.int p2), .val (.long q3), .second, .val (.int p4), .val (.int p5), .val (.int p6), .val (.int (p1 &&& (3 : Int32))), .val (.ref b_1), .val (.int (4 : Int32)), .val (.ref b_198), .unset, .unset, .unset, .unset, .unset] [(.int (2 : Int32)), (.int (4 : Int32))]))
        refine own_via (fun _ => XS.icmpNo X_208.here hx rfl (hb hby at_275) rfl (tlt ((by decide) : (2 : Int32) < (4 : Int32))).2.2.2) ?_
        show own_Go p e below _ (T_208.setTop (mkF m 278 #[.val (.int p1), .val (.int p2), .val (.long q3), .second, .val (.int p4), .val (.int p5), .val (.int p6), .val (.int (p1 &&& (3 : Int32))), .val (.ref b_1), .val (.int (4 : Int32)), .val (.ref b_198), .unset, .unset, .unset, .unset, .unset] []))
        refine own_via (fun _ => XS.aload X_208.here hx rfl (hb hby at_278) rfl rfl) ?_
        show own_Go p e below _ (T_208.setTop (mkF m 280 #[.val (.int p1), .val (.int p2), .val (.long q3), .second, .val (.int p4), .val (.int p5), .val (.int p6), .val (.int (p1 &&& (3 : Int32))), .val (.ref b_1), .val (.int (4 : Int32)), .val (.ref b_198), .unset, .unset, .unset, .unset, .unset] [(.ref b_198)]))
        refine own_via (fun _ => XS.iconst X_208.here hx rfl (hb hby at_280)) ?_
        show own_Go p e below _ (T_208.setTop (mkF m 281 #[.val (.int p1), .val (.int p2), .val (.long q3), .second, .val (.int p4), .val (.int p5), .val (.int p6), .val (.int (p1 &&& (3 : Int32))), .val (.ref b_1), .val (.int (4 : Int32)), .val (.ref b_198), .unset, .unset, .unset, .unset, .unset] [(.int (2 : Int32)), (.ref b_198)]))
        refine own_via (fun _ => XS.aload X_208.here hx rfl (hb hby at_281) rfl rfl) ?_
        show own_Go p e below _ (T_208.setTop (mkF m 283 #[.val (.int p1), .val (.int p2), .val (.long q3), .second, .val (.int p4), .val (.int p5), .val (.int p6), .val (.int (p1 &&& (3 : Int32))), .val (.ref b_1), .val (.int (4 : Int32)), .val (.ref b_198), .unset, .unset, .unset, .unset, .unset] [(.ref b_1), (.int (2 : Int32)), (.ref b_198)]))
        refine own_via (fun _ => XS.iconst X_208.here hx rfl (hb hby at_283)) ?_
        show own_Go p e below _ (T_208.setTop (mkF m 284 #[.val (.int p1), .val (.int p2), .val (.long q3), .second, .val (.int p4), .val (.int p5), .val (.int p6), .val (.int (p1 &&& (3 : Int32))), .val (.ref b_1), .val (.int (4 : Int32)), .val (.ref b_198), .unset, .unset, .unset, .unset, .unset] [(.int (2 : Int32)), (.ref b_1), (.int (2 : Int32)), (.ref b_198)]))
        have K_210 : Keep h_38 h_208 [] := Keep.wr (ws := []) K_206 W_208 (Or.inr (Nat.le_of_eq g_198.symm))
        obtain ⟨cl_211, Ar_211, q_211, S_211, M_211, H_211, G_211⟩ := (id (VE.keep K_210 nin0))
        have in_211 : ¬ ((2 : Int32) < 0 ∨ cl_211.slots.size ≤ ((2 : Int32)).toNatClampNeg) := inb_of S_211 ⟨by decide, by decide⟩
        refine own_via (X_208.caload hx (j := (2 : Int32)) (v := (.int e2)) (by rw [e_208]; exact Ar_211.1) (State.isArrayOf_alike hZ.alike Ar_211.2.1) Ar_211.2.2 in_211 (Has.at H_211 in_211 rfl) (g := (mkF m 284 #[.val (.int p1), .val (.int p2), .val (.long q3), .second, .val (.int p4), .val (.int p5), .val (.int p6), .val (.int (p1 &&& (3 : Int32))), .val (.ref b_1), .val (.int (4 : Int32)), .val (.ref b_198), .unset, .unset, .unset, .unset, .unset] [(.int (2 : Int32)), (.ref b_1), (.int (2 : Int32)), (.ref b_198)])) rfl rfl (hb hby at_284)) ?_
        show own_Go p e below _ (T_208.setTop (mkF m 285 #[.val (.int p1), .val (.int p2), .val (.long q3), .second, .val (.int p4), .val (.int p5), .val (.int p6), .val (.int (p1 &&& (3 : Int32))), .val (.ref b_1), .val (.int (4 : Int32)), .val (.ref b_198), .unset, .unset, .unset, .unset, .unset] [(.int e2), (.int (2 : Int32)), (.ref b_198)]))
        obtain ⟨cl_212, Ar_212, q_212, S_212, M_212, H_212, G_212⟩ := (id V_209)
        obtain ⟨T_212, h_212, X_212, e_212, W_212, st_212⟩ := stC X_208 hx hZ e_208 Ar_212 (j := (2 : Int32)) (inb_of S_212 ⟨by decide, by decide⟩) (g := (mkF m 285 #[.val (.int p1), .val (.int p2), .val (.long q3), .second, .val (.int p4), .val (.int p5), .val (.int p6), .val (.int (p1 &&& (3 : Int32))), .val (.ref b_1), .val (.int (4 : Int32)), .val (.ref b_198), .unset, .unset, .unset, .unset, .unset] [(.int e2), (.int (2 : Int32)), (.ref b_198)])) rfl rfl (hb hby at_285)
        have V_212 : Arv Z h_212 b_198 k_198 .char (4 : Int32) [(.int e0), (.int e1), (.int (nar .char e2)), (.int (0 : Int32))] (.int (0 : Int32)) := Arv.set Ar_212 q_212 S_212 M_212 H_212 G_212 (fits_nar_char _) W_212 2 rfl (Nat.le_of_ble_eq_true rfl)
        have N_212 := Fr.snoc X_212 N_208 (Nat.le_trans Z0 (Nat.le_trans K_204.1 (Nat.le_of_eq g_198.symm)))
        refine own_via st_212 ?_
        show own_Go p e below _ (T_212.setTop (mkF m 286 #[.val (.int p1), .val (.int p2), .val (.long q3), .second, .val (.int p4), .val (.int p5), .val (.int p6), .val (.int (p1 &&& (3 : Int32))), .val (.ref b_1), .val (.int (4 : Int32)), .val (.ref b_198), .unset, .unset, .unset, .unset, .unset] []))
        have V_213 : Arv Z h_212 b_198 k_198 .char (4 : Int32) [(.int e0), (.int e1), (.int e2), (.int (0 : Int32))] (.int (0 : Int32)) := by have q := V_212; rwa [own_nar he2] at q
        refine own_via (fun _ => XS.iload X_212.here hx rfl (hb hby at_286) rfl) ?_
        show own_Go p e below _ (T_212.setTop (mkF m 288 #[.val (.int p1), .val (.int p2), .val (.long q3), .second, .val (.int p4), .val (.int p5), .val (.int p6), .val (.int (p1 &&& (3 : Int32))), .val (.ref b_1), .val (.int (4 : Int32)), .val (.ref b_198), .unset, .unset, .unset, .unset, .unset] [(.int (4 : Int32))]))
        refine own_via (fun _ => XS.iconst X_212.here hx rfl (hb hby at_288)) ?_
        show own_Go p e below _ (T_212.setTop (mkF m 289 #[.val (.int p1), .val (.int p2), .val (.long q3), .second, .val (.int p4), .val (.int p5), .val (.int p6), .val (.int (p1 &&& (3 : Int32))), .val (.ref b_1), .val (.int (4 : Int32)), .val (.ref b_198), .unset, .unset, .unset, .unset, .unset] [(.int (3 : Int32)), (.int (4 : Int32))]))
        refine own_via (fun _ => XS.icmpNo X_212.here hx rfl (hb hby at_289) rfl (tlt ((by decide) : (3 : Int32) < (4 : Int32))).2.2.2) ?_
        show own_Go p e below _ (T_212.setTop (mkF m 292 #[.val (.int p1), .val (.int p2), .val (.long q3), .second, .val (.int p4), .val (.int p5), .val (.int p6), .val (.int (p1 &&& (3 : Int32))), .val (.ref b_1), .val (.int (4 : Int32)), .val (.ref b_198), .unset, .unset, .unset, .unset, .unset] []))
        refine own_via (fun _ => XS.aload X_212.here hx rfl (hb hby at_292) rfl rfl) ?_
        show own_Go p e below _ (T_212.setTop (mkF m 294 #[.val (.int p1), .val (.int p2), .val (.long q3), .second, .val (.int p4), .val (.int p5), .val (.int p6), .val (.int (p1 &&& (3 : Int32))), .val (.ref b_1), .val (.int (4 : Int32)), .val (.ref b_198), .unset, .unset, .unset, .unset, .unset] [(.ref b_198)]))
        refine own_via (fun _ => XS.iconst X_212.here hx rfl (hb hby at_294)) ?_
        show own_Go p e below _ (T_212.setTop (mkF m 295 #[.val (.int p1), .val (.int p2), .val (.long q3), .second, .val (.int p4), .val (.int p5), .val (.int p6), .val (.int (p1 &&& (3 : Int32))), .val (.ref b_1), .val (.int (4 : Int32)), .val (.ref b_198), .unset, .unset, .unset, .unset, .unset] [(.int (3 : Int32)), (.ref b_198)]))
        refine own_via (fun _ => XS.aload X_212.here hx rfl (hb hby at_295) rfl rfl) ?_
        show own_Go p e below _ (T_212.setTop (mkF m 297 #[.val (.int p1), .val (.int p2), .val (.long q3), .second, .val (.int p4), .val (.int p5), .val (.int p6), .val (.int (p1 &&& (3 : Int32))), .val (.ref b_1), .val (.int (4 : Int32)), .val (.ref b_198), .unset, .unset, .unset, .unset, .unset] [(.ref b_1), (.int (3 : Int32)), (.ref b_198)]))
        refine own_via (fun _ => XS.iconst X_212.here hx rfl (hb hby at_297)) ?_
        show own_Go p e below _ (T_212.setTop (mkF m 298 #[.val (.int p1), .val (.int p2), .val (.long q3), .second, .val (.int p4), .val (.int p5), .val (.int p6), .val (.int (p1 &&& (3 : Int32))), .val (.ref b_1), .val (.int (4 : Int32)), .val (.ref b_198), .unset, .unset, .unset, .unset, .unset] [(.int (3 : Int32)), (.ref b_1), (.int (3 : Int32)), (.ref b_198)]))
        have K_214 : Keep h_38 h_212 [] := Keep.wr (ws := []) K_210 W_212 (Or.inr (Nat.le_of_eq g_198.symm))
        obtain ⟨cl_215, Ar_215, q_215, S_215, M_215, H_215, G_215⟩ := (id (VE.keep K_214 nin0))
        have in_215 : ¬ ((3 : Int32) < 0 ∨ cl_215.slots.size ≤ ((3 : Int32)).toNatClampNeg) := inb_of S_215 ⟨by decide, by decide⟩
        refine own_via (X_212.caload hx (j := (3 : Int32)) (v := (.int e3)) (by rw [e_212]; exact Ar_215.1) (State.isArrayOf_alike hZ.alike Ar_215.2.1) Ar_215.2.2 in_215 (Has.at H_215 in_215 rfl) (g := (mkF m 298 #[.val (.int p1), .val (.int p2), .val (.long q3), .second, .val (.int p4), .val (.int p5), .val (.int p6), .val (.int (p1 &&& (3 : Int32))), .val (.ref b_1), .val (.int (4 : Int32)), .val (.ref b_198), .unset, .unset, .unset, .unset, .unset] [(.int (3 : Int32)), (.ref b_1), (.int (3 : Int32)), (.ref b_198)])) rfl rfl (hb hby at_298)) ?_
        show own_Go p e below _ (T_212.setTop (mkF m 299 #[.val (.int p1), .val (.int p2), .val (.long q3), .second, .val (.int p4), .val (.int p5), .val (.int p6), .val (.int (p1 &&& (3 : Int32))), .val (.ref b_1), .val (.int (4 : Int32)), .val (.ref b_198), .unset, .unset, .unset, .unset, .unset] [(.int e3), (.int (3 : Int32)), (.ref b_198)]))
        obtain ⟨cl_216, Ar_216, q_216, S_216, M_216, H_216, G_216⟩ := (id V_213)
        obtain ⟨T_216, h_216, X_216, e_216, W_216, st_216⟩ := stC X_212 hx hZ e_212 Ar_216 (j := (3 : Int32)) (inb_of S_216 ⟨by decide, by decide⟩) (g := (mkF m 299 #[.val (.int p1), .val (.int p2), .val (.long q3), .second, .val (.int p4), .val (.int p5), .val (.int p6), .val (.int (p1 &&& (3 : Int32))), .val (.ref b_1), .val (.int (4 : Int32)), .val (.ref b_198), .unset, .unset, .unset, .unset, .unset] [(.int e3), (.int (3 : Int32)), (.ref b_198)])) rfl rfl (hb hby at_299)
        have V_216 : Arv Z h_216 b_198 k_198 .char (4 : Int32) [(.int e0), (.int e1), (.int e2), (.int (nar .char e3))] (.int (0 : Int32)) := Arv.set Ar_216 q_216 S_216 M_216 H_216 G_216 (fits_nar_char _) W_216 3 rfl (Nat.le_of_ble_eq_true rfl)
        have N_216 := Fr.snoc X_216 N_212 (Nat.le_trans Z0 (Nat.le_trans K_204.1 (Nat.le_of_eq g_198.symm)))
        refine own_via st_216 ?_
        show own_Go p e below _ (T_216.setTop (mkF m 300 #[.val (.int p1), .val (.int p2), .val (.long q3), .second, .val (.int p4), .val (.int p5), .val (.int p6), .val (.int (p1 &&& (3 : Int32))), .val (.ref b_1), .val (.int (4 : Int32)), .val (.ref b_198), .unset, .unset, .unset, .unset, .unset] []))
        have V_217 : Arv Z h_216 b_198 k_198 .char (4 : Int32) [(.int e0), (.int e1), (.int e2), (.int e3)] (.int (0 : Int32)) := by have q := V_216; rwa [own_nar he3] at q
        refine own_via (fun _ => XS.iload X_216.here hx rfl (hb hby at_300) rfl) ?_
        show own_Go p e below _ (T_216.setTop (mkF m 302 #[.val (.int p1), .val (.int p2), .val (.long q3), .second, .val (.int p4), .val (.int p5), .val (.int p6), .val (.int (p1 &&& (3 : Int32))), .val (.ref b_1), .val (.int (4 : Int32)), .val (.ref b_198), .unset, .unset, .unset, .unset, .unset] [(.int (4 : Int32))]))
        refine own_via (fun _ => XS.iconst X_216.here hx rfl (hb hby at_302)) ?_
        show own_Go p e below _ (T_216.setTop (mkF m 303 #[.val (.int p1), .val (.int p2), .val (.long q3), .second, .val (.int p4), .val (.int p5), .val (.int p6), .val (.int (p1 &&& (3 : Int32))), .val (.ref b_1), .val (.int (4 : Int32)), .val (.ref b_198), .unset, .unset, .unset, .unset, .unset] [(.int (4 : Int32)), (.int (4 : Int32))]))
        refine own_via (fun _ => XS.icmpYes X_216.here hx rfl (pc0 := 303) (pc' := 314) rfl (hb hby at_303) rfl (flt ((by decide) : ¬ ((4 : Int32) < (4 : Int32)))).2.2.2 (by decide) (by decide)) ?_
        show own_Go p e below _ (T_216.setTop (mkF m 314 #[.val (.int p1), .val (.int p2), .val (.long q3), .second, .val (.int p4), .val (.int p5), .val (.int p6), .val (.int (p1 &&& (3 : Int32))), .val (.ref b_1), .val (.int (4 : Int32)), .val (.ref b_198), .unset, .unset, .unset, .unset, .unset] []))
        refine own_via (fun _ => XS.iload X_216.here hx rfl (hb hby at_314) rfl) ?_
        show own_Go p e below _ (T_216.setTop (mkF m 316 #[.val (.int p1), .val (.int p2), .val (.long q3), .second, .val (.int p4), .val (.int p5), .val (.int p6), .val (.int (p1 &&& (3 : Int32))), .val (.ref b_1), .val (.int (4 : Int32)), .val (.ref b_198), .unset, .unset, .unset, .unset, .unset] [(.int (4 : Int32))]))
        refine own_via (fun _ => XS.iconst X_216.here hx rfl (hb hby at_316)) ?_
        show own_Go p e below _ (T_216.setTop (mkF m 317 #[.val (.int p1), .val (.int p2), .val (.long q3), .second, .val (.int p4), .val (.int p5), .val (.int p6), .val (.int (p1 &&& (3 : Int32))), .val (.ref b_1), .val (.int (4 : Int32)), .val (.ref b_198), .unset, .unset, .unset, .unset, .unset] [(.int (5 : Int32)), (.int (4 : Int32))]))
        refine own_via (fun _ => XS.icmpYes X_216.here hx rfl (pc0 := 317) (pc' := 328) rfl (hb hby at_317) rfl (flt ((by decide) : ¬ ((5 : Int32) < (4 : Int32)))).2.2.2 (by decide) (by decide)) ?_
        show own_Go p e below _ (T_216.setTop (mkF m 328 #[.val (.int p1), .val (.int p2), .val (.long q3), .second, .val (.int p4), .val (.int p5), .val (.int p6), .val (.int (p1 &&& (3 : Int32))), .val (.ref b_1), .val (.int (4 : Int32)), .val (.ref b_198), .unset, .unset, .unset, .unset, .unset] []))
        refine own_via (fun _ => XS.iload X_216.here hx rfl (hb hby at_328) rfl) ?_
        show own_Go p e below _ (T_216.setTop (mkF m 330 #[.val (.int p1), .val (.int p2), .val (.long q3), .second, .val (.int p4), .val (.int p5), .val (.int p6), .val (.int (p1 &&& (3 : Int32))), .val (.ref b_1), .val (.int (4 : Int32)), .val (.ref b_198), .unset, .unset, .unset, .unset, .unset] [(.int (4 : Int32))]))
        refine own_via (fun _ => XS.bipush X_216.here hx rfl (hb hby at_330)) ?_
        show own_Go p e below _ (T_216.setTop (mkF m 332 #[.val (.int p1), .val (.int p2), .val (.long q3), .second, .val (.int p4), .val (.int p5), .val (.int p6), .val (.int (p1 &&& (3 : Int32))), .val (.ref b_1), .val (.int (4 : Int32)), .val (.ref b_198), .unset, .unset, .unset, .unset, .unset] [(.int (6 : Int32)), (.int (4 : Int32))]))
        refine own_via (fun _ => XS.icmpYes X_216.here hx rfl (pc0 := 332) (pc' := 345) rfl (hb hby at_332) rfl (flt ((by decide) : ¬ ((6 : Int32) < (4 : Int32)))).2.2.2 (by decide) (by decide)) ?_
        show own_Go p e below _ (T_216.setTop (mkF m 345 #[.val (.int p1), .val (.int p2), .val (.long q3), .second, .val (.int p4), .val (.int p5), .val (.int p6), .val (.int (p1 &&& (3 : Int32))), .val (.ref b_1), .val (.int (4 : Int32)), .val (.ref b_198), .unset, .unset, .unset, .unset, .unset] []))
        obtain ⟨T_218, h_218, X_218, e_218, E_218, A_218, D_218, -, st_218⟩ := newO X_216 hx hZ hown (own_w hw 6 rfl) (own_w hw 7 rfl) (own_w hw 8 rfl) e_216 (g := (mkF m 345 #[.val (.int p1), .val (.int p2), .val (.long q3), .second, .val (.int p4), .val (.int p5), .val (.int p6), .val (.int (p1 &&& (3 : Int32))), .val (.ref b_1), .val (.int (4 : Int32)), .val (.ref b_198), .unset, .unset, .unset, .unset, .unset] [])) rfl (hb hby at_345) (by decide) (by decide)
        obtain ⟨b_218, g_218⟩ : ∃ z, z = h_216.size := ⟨_, rfl⟩
        rw [← g_218] at A_218 D_218 st_218
        have F_219 : Fld Z h_218 b_218 "com/example/cascadilla/cascadilla/language/Type" "name" "Ljava/lang/String;" .null := D_218 (Or.inr (own_w hw 43 rfl)) (ty := (.object "java/lang/String")) (by decide)
        have F_220 : Fld Z h_218 b_218 "com/example/cascadilla/cascadilla/language/Type" "label" "Lcom/example/cascadilla/cascadilla/language/Label;" .null := D_218 (Or.inr (own_w hw 45 rfl)) (ty := (.object "com/example/cascadilla/cascadilla/language/Label")) (by decide)
        have F_221 : Fld Z h_218 b_218 "com/example/cascadilla/cascadilla/language/Type" "line" "I" (.int (0 : Int32)) := D_218 (Or.inr (own_w hw 47 rfl)) (ty := .int) (by decide)
        refine own_via st_218 ?_
        show own_Go p e below _ (T_218.setTop (mkF m 348 #[.val (.int p1), .val (.int p2), .val (.long q3), .second, .val (.int p4), .val (.int p5), .val (.int p6), .val (.int (p1 &&& (3 : Int32))), .val (.ref b_1), .val (.int (4 : Int32)), .val (.ref b_198), .unset, .unset, .unset, .unset, .unset] [(.ref b_218)]))
        refine own_via (fun _ => XS.dup X_218.here hx rfl (hb hby at_348) rfl rfl) ?_
        show own_Go p e below _ (T_218.setTop (mkF m 349 #[.val (.int p1), .val (.int p2), .val (.long q3), .second, .val (.int p4), .val (.int p5), .val (.int p6), .val (.int (p1 &&& (3 : Int32))), .val (.ref b_1), .val (.int (4 : Int32)), .val (.ref b_198), .unset, .unset, .unset, .unset, .unset] [(.ref b_218), (.ref b_218)]))
        obtain ⟨T_222, h_222, X_222, e_222, E_222, A_222, D_222, -, st_222⟩ := newO X_218 hx hZ hown (own_w hw 9 rfl) (own_w hw 10 rfl) (own_w hw 11 rfl) e_218 (g := (mkF m 349 #[.val (.int p1), .val (.int p2), .val (.long q3), .second, .val (.int p4), .val (.int p5), .val (.int p6), .val (.int (p1 &&& (3 : Int32))), .val (.ref b_1), .val (.int (4 : Int32)), .val (.ref b_198), .unset, .unset, .unset, .unset, .unset] [(.ref b_218), (.ref b_218)])) rfl (hb hby at_349) (by decide) (by decide)
        obtain ⟨b_222, g_222⟩ : ∃ z, z = h_218.size := ⟨_, rfl⟩
        rw [← g_222] at A_222 D_222 st_222
        have F_223 : Fld Z h_222 b_222 "java/lang/String" "coder" "B" (.int (0 : Int32)) := D_222 (Or.inr (own_w hw 35 rfl)) (ty := .byte) (by decide)
        have F_224 : Fld Z h_222 b_222 "java/lang/String" "value" "[B" .null := D_222 (Or.inr (own_w hw 37 rfl)) (ty := (.array .byte)) (by decide)
        refine own_via st_222 ?_
        show own_Go p e below _ (T_222.setTop (mkF m 352 #[.val (.int p1), .val (.int p2), .val (.long q3), .second, .val (.int p4), .val (.int p5), .val (.int p6), .val (.int (p1 &&& (3 : Int32))), .val (.ref b_1), .val (.int (4 : Int32)), .val (.ref b_198), .unset, .unset, .unset, .unset, .unset] [(.ref b_222), (.ref b_218), (.ref b_218)]))
        refine own_via (fun _ => XS.dup X_222.here hx rfl (hb hby at_352) rfl rfl) ?_
        show own_Go p e below _ (T_222.setTop (mkF m 353 #[.val (.int p1), .val (.int p2), .val (.long q3), .second, .val (.int p4), .val (.int p5), .val (.int p6), .val (.int (p1 &&& (3 : Int32))), .val (.ref b_1), .val (.int (4 : Int32)), .val (.ref b_198), .unset, .unset, .unset, .unset, .unset] [(.ref b_222), (.ref b_222), (.ref b_218), (.ref b_218)]))
        refine own_via (fun _ => XS.aload X_222.here hx rfl (hb hby at_353) rfl rfl) ?_
        show own_Go p e below _ (T_222.setTop (mkF m 355 #[.val (.int p1), .val (.int p2), .val (.long q3), .second, .val (.int p4), .val (.int p5), .val (.int p6), .val (.int (p1 &&& (3 : Int32))), .val (.ref b_1), .val (.int (4 : Int32)), .val (.ref b_198), .unset, .unset, .unset, .unset, .unset] [(.ref b_198), (.ref b_222), (.ref b_222), (.ref b_218), (.ref b_218)]))
        have hp : ∀ c ∈ ([e0, e1, e2, e3] : List Int32), ¬ c < 0 ∧ ¬ (255 : Int32) < c := by intro c hc; simp only [List.mem_cons, List.not_mem_nil, or_false] at hc; rcases hc with rfl | rfl | rfl | rfl <;> assumption
        have K_225 : Keep h_216 h_218 [] := (Keep.refl h_216 []).ext E_218
        have K_226 : Keep h_216 h_222 [] := K_225.ext E_222
        have K_227 : Keep h0 h_198 [] := K_204.ext E_198
        have K_228 : Keep h0 h_201 [] := Keep.wr (ws := []) K_227 W_201 (Or.inr (Nat.le_trans K_204.1 (Nat.le_of_eq g_198.symm)))
        have K_229 : Keep h0 h_208 [] := Keep.wr (ws := []) K_228 W_208 (Or.inr (Nat.le_trans K_204.1 (Nat.le_of_eq g_198.symm)))
        have K_230 : Keep h0 h_212 [] := Keep.wr (ws := []) K_229 W_212 (Or.inr (Nat.le_trans K_204.1 (Nat.le_of_eq g_198.symm)))
        have K_231 : Keep h0 h_216 [] := Keep.wr (ws := []) K_230 W_216 (Or.inr (Nat.le_trans K_204.1 (Nat.le_of_eq g_198.symm)))
        have K_232 : Keep h0 h_218 [] := K_231.ext E_218
        have K_233 : Keep h0 h_222 [] := K_232.ext E_222
        obtain ⟨_, _, ⟨T_234, L_234, k_234, n_234⟩, -, X_234, ⟨Lc_234, hQ_234, l_234, y_234, z_234⟩, st_234⟩ := X_222.specialBack hx (y := (⟨"java/lang/String", "<init>", "([C)V"⟩ : MethodName)) rfl hown (mvT hZ (own_w hw 12 rfl)) (mvT hZ (own_w hw 13 rfl)) (mvT hZ (own_w hw 14 rfl)) (by decide) (StrChars.Road.backV (W := 3) hZ (own_hwords hw) (kI := 4) (own_w hw 10 rfl) (cs := ([e0, e1, e2, e3] : List Int32)) (bs := ([e0, e1, e2, e3] : List Int32).map (fun c => c.toInt8.toInt32)) (n := 4) (Nat.le_trans Z0 (Nat.le_trans K_232.1 (Nat.le_of_eq g_222.symm))) (Nat.le_trans Z0 K_233.1) A_222 F_224 F_223 (V_217.keep K_226 nin0) (Scs.ext (O0.keep K_233 all0).2) hcs rfl rfl (by decide) (by decide) hp rfl (by decide) (by decide)) (g := (mkF m 355 #[.val (.int p1), .val (.int p2), .val (.long q3), .second, .val (.int p4), .val (.int p5), .val (.int p6), .val (.int (p1 &&& (3 : Int32))), .val (.ref b_1), .val (.int (4 : Int32)), .val (.ref b_198), .unset, .unset, .unset, .unset, .unset] [(.ref b_198), (.ref b_222), (.ref b_222), (.ref b_218), (.ref b_218)])) rfl (by rw [hml]; rfl) (Steps.refl _) (a := b_222) (argsL := [(.ref b_198)]) (rest := [(.ref b_222), (.ref b_218), (.ref b_218)]) (lenOf pd_6 rfl) rfl (by show 2 * 0 + _ ≤ _; exact Nat.le_of_eq rfl) (hb hby at_355) (fun _ _ => ⟨rfl, e_222, (by decide : 4 + 1 ≤ _), (by decide : 18 + 4 ≤ _)⟩)
        dsimp only [Pt.U, Pt.locs, Pt.cells, Pt.slots] at X_234 l_234 y_234 z_234 st_234 hQ_234
        subst l_234 y_234 z_234
        obtain ⟨rfl, Nq_234, K_234q, EX_234, FC_234, t_234, kb_234, -, ft_234, -, FV_234, FA_234⟩ := hQ_234
        have N_234 := Fr.app N_216 Nq_234
        refine own_via (fun _ k => st_234.trans k) ?_
        show own_Go p e below _ (T_234.setTop (mkF m 358 #[.val (.int p1), .val (.int p2), .val (.long q3), .second, .val (.int p4), .val (.int p5), .val (.int p6), .val (.int (p1 &&& (3 : Int32))), .val (.ref b_1), .val (.int (4 : Int32)), .val (.ref b_198), .unset, .unset, .unset, .unset, .unset] [(.ref b_222), (.ref b_218), (.ref b_218)]))
        have SS : own_Str Z T_234.heap b_222 [e0, e1, e2, e3] := ⟨EX_234, FC_234, ⟨t_234, kb_234, FV_234, FA_234⟩, hp, by simp⟩
        refine own_via (fun _ => XS.aconstNull X_234.here hx rfl (hb hby at_358)) ?_
        show own_Go p e below _ (T_234.setTop (mkF m 359 #[.val (.int p1), .val (.int p2), .val (.long q3), .second, .val (.int p4), .val (.int p5), .val (.int p6), .val (.int (p1 &&& (3 : Int32))), .val (.ref b_1), .val (.int (4 : Int32)), .val (.ref b_198), .unset, .unset, .unset, .unset, .unset] [.null, (.ref b_222), (.ref b_218), (.ref b_218)]))
        refine own_via (fun _ => XS.iload X_234.here hx rfl (hb hby at_359) rfl) ?_
        show own_Go p e below _ (T_234.setTop (mkF m 361 #[.val (.int p1), .val (.int p2), .val (.long q3), .second, .val (.int p4), .val (.int p5), .val (.int p6), .val (.int (p1 &&& (3 : Int32))), .val (.ref b_1), .val (.int (4 : Int32)), .val (.ref b_198), .unset, .unset, .unset, .unset, .unset] [(.int p6), .null, (.ref b_222), (.ref b_218), (.ref b_218)]))
        have K_235 : Keep h_218 h_222 [] := (Keep.refl h_218 []).ext E_222
        have K_236 : Keep h_218 T_234.heap [] := Keep.trans (ws := []) K_235 K_234q (allS (Or.inr (Nat.le_of_eq g_222.symm)) all0)
        have K_237 : Keep h0 T_234.heap [] := Keep.trans (ws := []) K_233 K_234q (allS (Or.inr (Nat.le_trans K_232.1 (Nat.le_of_eq g_222.symm))) all0)
        obtain ⟨_, _, ⟨T_238, L_238, k_238, n_238⟩, -, X_238, ⟨Lc_238, hQ_238, l_238, y_238, z_238⟩, st_238⟩ := X_234.specialBack hx (y := (⟨"com/example/cascadilla/cascadilla/language/Type", "<init>", "(Ljava/lang/String;Lcom/example/cascadilla/cascadilla/language/Label;I)V"⟩ : MethodName)) rfl hown (mvT hZ (own_w hw 38 rfl)) (mvT hZ (own_w hw 39 rfl)) (mvT hZ (own_w hw 40 rfl)) (by decide) (backOf (W := 1) (rmtype l Z a0 hw [] b_218 b_222 p6 T_234.heap n0 (Nat.le_trans Z0 K_237.1) (A_218.keep K_236) (F_219.keep K_236 nin0) (F_220.keep K_236 nin0) (F_221.keep K_236 nin0) (Nat.le_trans Z0 (Nat.le_trans K_231.1 (Nat.le_of_eq g_218.symm)))) hZ (own_w hw 40 rfl) (own_w hw 8 rfl) (by decide) (by decide)) (g := (mkF m 361 #[.val (.int p1), .val (.int p2), .val (.long q3), .second, .val (.int p4), .val (.int p5), .val (.int p6), .val (.int (p1 &&& (3 : Int32))), .val (.ref b_1), .val (.int (4 : Int32)), .val (.ref b_198), .unset, .unset, .unset, .unset, .unset] [(.int p6), .null, (.ref b_222), (.ref b_218), (.ref b_218)])) rfl (by rw [hml]; rfl) (Steps.refl _) (a := b_218) (argsL := [(.ref b_222), .null, (.int p6)]) (rest := [(.ref b_218)]) (lenOf pd_7 rfl) rfl (by show 2 * 0 + _ ≤ _; exact Nat.le_of_eq rfl) (hb hby at_361) (fun _ _ => ⟨rfl, rfl, (by decide : 5 + 0 ≤ _), (by decide : 22 + 0 ≤ _)⟩)
        dsimp only [Pt.U, Pt.locs, Pt.cells, Pt.slots] at X_238 l_238 y_238 z_238 st_238 hQ_238
        subst l_238 y_238 z_238
        obtain ⟨rfl, Nq_238, K_238q, q_238_0⟩ := hQ_238
        have N_238 := Fr.app N_234 Nq_238
        refine own_via (fun _ k => st_238.trans k) ?_
        show own_Go p e below _ (T_238.setTop (mkF m 364 #[.val (.int p1), .val (.int p2), .val (.long q3), .second, .val (.int p4), .val (.int p5), .val (.int p6), .val (.int (p1 &&& (3 : Int32))), .val (.ref b_1), .val (.int (4 : Int32)), .val (.ref b_198), .unset, .unset, .unset, .unset, .unset] [(.ref b_218)]))
        refine own_via (fun _ => XS.astore X_238.here hx rfl (hb hby at_364) rfl rfl (l' := #[.val (.int p1), .val (.int p2), .val (.long q3), .second, .val (.int p4), .val (.int p5), .val (.int p6), .val (.int (p1 &&& (3 : Int32))), .val (.ref b_1), .val (.int (4 : Int32)), .val (.ref b_198), .val (.ref b_218), .unset, .unset, .unset, .unset]) rfl) ?_
        show own_Go p e below _ (T_238.setTop (mkF m 366 #[.val (.int p1), .val (.int p2), .val (.long q3), .second, .val (.int p4), .val (.int p5), .val (.int p6), .val (.int (p1 &&& (3 : Int32))), .val (.ref b_1), .val (.int (4 : Int32)), .val (.ref b_198), .val (.ref b_218), .unset, .unset, .unset, .unset] []))
        refine own_via (fun _ => XS.aload X_238.here hx rfl (hb hby at_366) rfl rfl) ?_
        show own_Go p e below _ (T_238.setTop (mkF m 368 #[.val (.int p1), .val (.int p2), .val (.long q3), .second, .val (.int p4), .val (.int p5), .val (.int p6), .val (.int (p1 &&& (3 : Int32))), .val (.ref b_1), .val (.int (4 : Int32)), .val (.ref b_198), .val (.ref b_218), .unset, .unset, .unset, .unset] [(.ref b_218)]))
        have K_239 : Keep T_234.heap T_238.heap [b_218] := Keep.trans (ws := [b_218]) (own_keep_mono (Keep.refl T_234.heap []) (by simp)) K_238q (allS (Or.inl (List.mem_of_getElem? (i := 0) rfl)) all0)
        have K_240 : Keep h0 T_238.heap [] := Keep.trans (ws := []) K_237 K_238q (allS (Or.inr (Nat.le_trans K_231.1 (Nat.le_of_eq g_218.symm))) all0)
        have K_242 : Keep h_218 T_238.heap [b_218] := Keep.trans (ws := [b_218]) (own_keep_mono K_236 (by simp)) K_238q (allS (Or.inl (List.mem_of_getElem? (i := 0) rfl)) all0)
        obtain ⟨cq_241, kq_241, q_241a, q_241b, q_241c⟩ := isOf hZ rfl (A_218.keep K_242)
        obtain ⟨_, _, ⟨T_241, L_241, k_241, n_241⟩, -, Xc_241, hSc_241, hgc_241, ⟨Lc_241, hQ_241, l_241, y_241, z_241⟩, st_241⟩ := X_238.virtualBackS hx (y := (⟨"com/example/cascadilla/cascadilla/language/Type", "isClass", "()Z"⟩ : MethodName)) (z := (⟨"com/example/cascadilla/cascadilla/language/Type", "isClass", "()Z"⟩ : MethodName)) hown (mvT hZ (own_w hw 48 rfl)) (mvT hZ (own_w hw 49 rfl)) (notFace_of_selects (args := #[]) (mvT hZ (own_w hw 51 rfl))) (mvT hZ (own_w hw 51 rfl)) (mvT hZ (own_w hw 50 rfl)) (by decide) (own_backS (J := fun vm_ => CHv Z consts_1 vm_ T_238.heap) (W := 0) (rmisClass l Z a0 hw [] b_218 b_222 [e0, e1, e2, e3] cs T_238.heap n0 (Nat.le_trans Z0 K_240.1) (O0.keep K_240 all0) Scs hcs q_238_0 (SS.keepO K_239 (own_offS (A_218.keep K_236) (by decide) (own_w hw 7 rfl) own_off0))) hZ (own_w hw 52 rfl) (own_w hw 8 rfl) (by decide) (by decide)) q_241a q_241c (g := (mkF m 368 #[.val (.int p1), .val (.int p2), .val (.long q3), .second, .val (.int p4), .val (.int p5), .val (.int p6), .val (.int (p1 &&& (3 : Int32))), .val (.ref b_1), .val (.int (4 : Int32)), .val (.ref b_198), .val (.ref b_218), .unset, .unset, .unset, .unset] [(.ref b_218)])) rfl (by rw [hml]; rfl) (Steps.refl _) (argsL := []) (rest := []) (lenOf pd_8 rfl) rfl (by show 2 * 0 + _ ≤ _; exact Nat.le_of_eq rfl) (hb hby at_368) (fun _ hW1 => ⟨rfl, rfl, (own_CHstay (J0.keep K_240 all0) hZ (own_EW hw) hW1), (by decide : 5 + 4 ≤ _), (by decide : 22 + 48 ≤ _)⟩)
        dsimp only [Pt.U, Pt.locs, Pt.cells, Pt.slots] at Xc_241 hSc_241 hgc_241 l_241 y_241 z_241 st_241 hQ_241
        subst l_241 y_241 z_241
        obtain ⟨X_241, hS_241, hZ_241, ho_241⟩ := rebS hS0 (Nat.le_trans (Nat.zero_le _) K_240.1) Xc_241 hSc_241 hgc_241 hZ hown
        obtain ⟨i_243, rfl, Nq_241, K_241q, q_241_0, J_241⟩ := hQ_241
        have N_241 := Fr.app N_238 Nq_241
        refine own_via (fun _ k => st_241.trans k) ?_
        show own_Go p e below _ (T_241.setTop (mkF m 371 #[.val (.int p1), .val (.int p2), .val (.long q3), .second, .val (.int p4), .val (.int p5), .val (.int p6), .val (.int (p1 &&& (3 : Int32))), .val (.ref b_1), .val (.int (4 : Int32)), .val (.ref b_198), .val (.ref b_218), .unset, .unset, .unset, .unset] [(.int i_243)]))
        refine own_via (fun _ => XS.istore X_241.here hx rfl (hb hby at_371) rfl (l' := #[.val (.int p1), .val (.int p2), .val (.long q3), .second, .val (.int p4), .val (.int p5), .val (.int p6), .val (.int (p1 &&& (3 : Int32))), .val (.ref b_1), .val (.int (4 : Int32)), .val (.ref b_198), .val (.ref b_218), .val (.int i_243), .unset, .unset, .unset]) rfl) ?_
        show own_Go p e below _ (T_241.setTop (mkF m 373 #[.val (.int p1), .val (.int p2), .val (.long q3), .second, .val (.int p4), .val (.int p5), .val (.int p6), .val (.int (p1 &&& (3 : Int32))), .val (.ref b_1), .val (.int (4 : Int32)), .val (.ref b_198), .val (.ref b_218), .val (.int i_243), .unset, .unset, .unset] []))
        refine own_via (fun _ => XS.iload X_241.here hx rfl (hb hby at_373) rfl) ?_
        show own_Go p e below _ (T_241.setTop (mkF m 375 #[.val (.int p1), .val (.int p2), .val (.long q3), .second, .val (.int p4), .val (.int p5), .val (.int p6), .val (.int (p1 &&& (3 : Int32))), .val (.ref b_1), .val (.int (4 : Int32)), .val (.ref b_198), .val (.ref b_218), .val (.int i_243), .unset, .unset, .unset] [(.int (4 : Int32))]))
        refine own_via (fun _ => XS.iconst X_241.here hx rfl (hb hby at_375)) ?_
        show own_Go p e below _ (T_241.setTop (mkF m 376 #[.val (.int p1), .val (.int p2), .val (.long q3), .second, .val (.int p4), .val (.int p5), .val (.int p6), .val (.int (p1 &&& (3 : Int32))), .val (.ref b_1), .val (.int (4 : Int32)), .val (.ref b_198), .val (.ref b_218), .val (.int i_243), .unset, .unset, .unset] [(.int (3 : Int32)), (.int (4 : Int32))]))
        obtain ⟨z13, ez13⟩ : ∃ z : Int32, z = (0 : Int32) := ⟨_, rfl⟩
        refine own_seq (B := T_241.setTop (mkF m 411 #[.val (.int p1), .val (.int p2), .val (.long q3), .second, .val (.int p4), .val (.int p5), .val (.int p6), .val (.int (p1 &&& (3 : Int32))), .val (.ref b_1), .val (.int (4 : Int32)), .val (.ref b_198), .val (.ref b_218), .val (.int i_243), .unset, .unset, .unset] [(.int z13)])) (fun kz => ?_) ?_
        · refine own_via (fun _ => XS.icmpYes X_241.here hx rfl (pc0 := 376) (pc' := 410) rfl (hb hby at_376) rfl (feq ((by decide) : ¬ ((4 : Int32) = (3 : Int32)))).2 (by decide) (by decide)) ?_
          show own_Go p e below _ (T_241.setTop (mkF m 410 #[.val (.int p1), .val (.int p2), .val (.long q3), .second, .val (.int p4), .val (.int p5), .val (.int p6), .val (.int (p1 &&& (3 : Int32))), .val (.ref b_1), .val (.int (4 : Int32)), .val (.ref b_198), .val (.ref b_218), .val (.int i_243), .unset, .unset, .unset] []))
          refine own_via (fun _ => XS.iconst X_241.here hx rfl (hb hby at_410)) ?_
          show own_Go p e below _ (T_241.setTop (mkF m 411 #[.val (.int p1), .val (.int p2), .val (.long q3), .second, .val (.int p4), .val (.int p5), .val (.int p6), .val (.int (p1 &&& (3 : Int32))), .val (.ref b_1), .val (.int (4 : Int32)), .val (.ref b_198), .val (.ref b_218), .val (.int i_243), .unset, .unset, .unset] [(.int (0 : Int32))]))
          subst ez13
          exact kz
        show own_Go p e below _ (T_241.setTop (mkF m 411 #[.val (.int p1), .val (.int p2), .val (.long q3), .second, .val (.int p4), .val (.int p5), .val (.int p6), .val (.int (p1 &&& (3 : Int32))), .val (.ref b_1), .val (.int (4 : Int32)), .val (.ref b_198), .val (.ref b_218), .val (.int i_243), .unset, .unset, .unset] [(.int z13)]))
        refine own_via (fun _ => XS.istore X_241.here hx rfl (hb hby at_411) rfl (l' := #[.val (.int p1), .val (.int p2), .val (.long q3), .second, .val (.int p4), .val (.int p5), .val (.int p6), .val (.int (p1 &&& (3 : Int32))), .val (.ref b_1), .val (.int (4 : Int32)), .val (.ref b_198), .val (.ref b_218), .val (.int i_243), .val (.int z13), .unset, .unset]) rfl) ?_
        show own_Go p e below _ (T_241.setTop (mkF m 413 #[.val (.int p1), .val (.int p2), .val (.long q3), .second, .val (.int p4), .val (.int p5), .val (.int p6), .val (.int (p1 &&& (3 : Int32))), .val (.ref b_1), .val (.int (4 : Int32)), .val (.ref b_198), .val (.ref b_218), .val (.int i_243), .val (.int z13), .unset, .unset] []))
        refine own_via (fun _ => XS.iload X_241.here hx rfl (hb hby at_413) rfl) ?_
        show own_Go p e below _ (T_241.setTop (mkF m 415 #[.val (.int p1), .val (.int p2), .val (.long q3), .second, .val (.int p4), .val (.int p5), .val (.int p6), .val (.int (p1 &&& (3 : Int32))), .val (.ref b_1), .val (.int (4 : Int32)), .val (.ref b_198), .val (.ref b_218), .val (.int i_243), .val (.int z13), .unset, .unset] [(.int (4 : Int32))]))
        refine own_via (fun _ => XS.bipush X_241.here hx rfl (hb hby at_415)) ?_
        show own_Go p e below _ (T_241.setTop (mkF m 417 #[.val (.int p1), .val (.int p2), .val (.long q3), .second, .val (.int p4), .val (.int p5), .val (.int p6), .val (.int (p1 &&& (3 : Int32))), .val (.ref b_1), .val (.int (4 : Int32)), .val (.ref b_198), .val (.ref b_218), .val (.int i_243), .val (.int z13), .unset, .unset] [(.int (7 : Int32)), (.int (4 : Int32))]))
        obtain ⟨z14, ez14⟩ : ∃ z : Int32, z = (0 : Int32) := ⟨_, rfl⟩
        refine own_seq (B := T_241.setTop (mkF m 489 #[.val (.int p1), .val (.int p2), .val (.long q3), .second, .val (.int p4), .val (.int p5), .val (.int p6), .val (.int (p1 &&& (3 : Int32))), .val (.ref b_1), .val (.int (4 : Int32)), .val (.ref b_198), .val (.ref b_218), .val (.int i_243), .val (.int z13), .unset, .unset] [(.int z14)])) (fun kz => ?_) ?_
        · refine own_via (fun _ => XS.icmpYes X_241.here hx rfl (pc0 := 417) (pc' := 488) rfl (hb hby at_417) rfl (feq ((by decide) : ¬ ((4 : Int32) = (7 : Int32)))).2 (by decide) (by decide)) ?_
          show own_Go p e below _ (T_241.setTop (mkF m 488 #[.val (.int p1), .val (.int p2), .val (.long q3), .second, .val (.int p4), .val (.int p5), .val (.int p6), .val (.int (p1 &&& (3 : Int32))), .val (.ref b_1), .val (.int (4 : Int32)), .val (.ref b_198), .val (.ref b_218), .val (.int i_243), .val (.int z13), .unset, .unset] []))
          refine own_via (fun _ => XS.iconst X_241.here hx rfl (hb hby at_488)) ?_
          show own_Go p e below _ (T_241.setTop (mkF m 489 #[.val (.int p1), .val (.int p2), .val (.long q3), .second, .val (.int p4), .val (.int p5), .val (.int p6), .val (.int (p1 &&& (3 : Int32))), .val (.ref b_1), .val (.int (4 : Int32)), .val (.ref b_198), .val (.ref b_218), .val (.int i_243), .val (.int z13), .unset, .unset] [(.int (0 : Int32))]))
          subst ez14
          exact kz
        show own_Go p e below _ (T_241.setTop (mkF m 489 #[.val (.int p1), .val (.int p2), .val (.long q3), .second, .val (.int p4), .val (.int p5), .val (.int p6), .val (.int (p1 &&& (3 : Int32))), .val (.ref b_1), .val (.int (4 : Int32)), .val (.ref b_198), .val (.ref b_218), .val (.int i_243), .val (.int z13), .unset, .unset] [(.int z14)]))
        refine own_via (fun _ => XS.istore X_241.here hx rfl (hb hby at_489) rfl (l' := #[.val (.int p1), .val (.int p2), .val (.long q3), .second, .val (.int p4), .val (.int p5), .val (.int p6), .val (.int (p1 &&& (3 : Int32))), .val (.ref b_1), .val (.int (4 : Int32)), .val (.ref b_198), .val (.ref b_218), .val (.int i_243), .val (.int z13), .val (.int z14), .unset]) rfl) ?_
        show own_Go p e below _ (T_241.setTop (mkF m 491 #[.val (.int p1), .val (.int p2), .val (.long q3), .second, .val (.int p4), .val (.int p5), .val (.int p6), .val (.int (p1 &&& (3 : Int32))), .val (.ref b_1), .val (.int (4 : Int32)), .val (.ref b_198), .val (.ref b_218), .val (.int i_243), .val (.int z13), .val (.int z14), .unset] []))
        refine own_via (fun _ => XS.iload X_241.here hx rfl (hb hby at_491) rfl) ?_
        show own_Go p e below _ (T_241.setTop (mkF m 493 #[.val (.int p1), .val (.int p2), .val (.long q3), .second, .val (.int p4), .val (.int p5), .val (.int p6), .val (.int (p1 &&& (3 : Int32))), .val (.ref b_1), .val (.int (4 : Int32)), .val (.ref b_198), .val (.ref b_218), .val (.int i_243), .val (.int z13), .val (.int z14), .unset] [(.int z13)]))
        obtain ⟨z15, ez15⟩ : ∃ z : Int32, z = (if z13 = (0 : Int32) then (if z14 = (0 : Int32) then (1 : Int32) else (0 : Int32)) else (0 : Int32)) := ⟨_, rfl⟩
        refine own_seq (B := T_241.setTop (mkF m 506 #[.val (.int p1), .val (.int p2), .val (.long q3), .second, .val (.int p4), .val (.int p5), .val (.int p6), .val (.int (p1 &&& (3 : Int32))), .val (.ref b_1), .val (.int (4 : Int32)), .val (.ref b_198), .val (.ref b_218), .val (.int i_243), .val (.int z13), .val (.int z14), .unset] [(.int z15)])) (fun kz => ?_) ?_
        · by_cases hv_244 : z13 = (0 : Int32)
          · refine own_via (fun _ => XS.ifNo X_241.here hx rfl (hb hby at_493) rfl ((if0 _ _).trans (teq (hv_244 : z13 = (0 : Int32))).2)) ?_
            show own_Go p e below _ (T_241.setTop (mkF m 496 #[.val (.int p1), .val (.int p2), .val (.long q3), .second, .val (.int p4), .val (.int p5), .val (.int p6), .val (.int (p1 &&& (3 : Int32))), .val (.ref b_1), .val (.int (4 : Int32)), .val (.ref b_198), .val (.ref b_218), .val (.int i_243), .val (.int z13), .val (.int z14), .unset] []))
            refine own_via (fun _ => XS.iload X_241.here hx rfl (hb hby at_496) rfl) ?_
            show own_Go p e below _ (T_241.setTop (mkF m 498 #[.val (.int p1), .val (.int p2), .val (.long q3), .second, .val (.int p4), .val (.int p5), .val (.int p6), .val (.int (p1 &&& (3 : Int32))), .val (.ref b_1), .val (.int (4 : Int32)), .val (.ref b_198), .val (.ref b_218), .val (.int i_243), .val (.int z13), .val (.int z14), .unset] [(.int z14)]))
            by_cases hv_245 : z14 = (0 : Int32)
            · refine own_via (fun _ => XS.ifNo X_241.here hx rfl (hb hby at_498) rfl ((if0 _ _).trans (teq (hv_245 : z14 = (0 : Int32))).2)) ?_
              show own_Go p e below _ (T_241.setTop (mkF m 501 #[.val (.int p1), .val (.int p2), .val (.long q3), .second, .val (.int p4), .val (.int p5), .val (.int p6), .val (.int (p1 &&& (3 : Int32))), .val (.ref b_1), .val (.int (4 : Int32)), .val (.ref b_198), .val (.ref b_218), .val (.int i_243), .val (.int z13), .val (.int z14), .unset] []))
              refine own_via (fun _ => XS.iconst X_241.here hx rfl (hb hby at_501)) ?_
              show own_Go p e below _ (T_241.setTop (mkF m 502 #[.val (.int p1), .val (.int p2), .val (.long q3), .second, .val (.int p4), .val (.int p5), .val (.int p6), .val (.int (p1 &&& (3 : Int32))), .val (.ref b_1), .val (.int (4 : Int32)), .val (.ref b_198), .val (.ref b_218), .val (.int i_243), .val (.int z13), .val (.int z14), .unset] [(.int (1 : Int32))]))
              refine own_via (fun _ => XS.goto X_241.here hx rfl (pc0 := 502) (pc' := 506) rfl (hb hby at_502) (by decide) (by decide)) ?_
              show own_Go p e below _ (T_241.setTop (mkF m 506 #[.val (.int p1), .val (.int p2), .val (.long q3), .second, .val (.int p4), .val (.int p5), .val (.int p6), .val (.int (p1 &&& (3 : Int32))), .val (.ref b_1), .val (.int (4 : Int32)), .val (.ref b_198), .val (.ref b_218), .val (.int i_243), .val (.int z13), .val (.int z14), .unset] [(.int (1 : Int32))]))
              rw [if_pos hv_244] at ez15
              rw [if_pos hv_245] at ez15
              subst ez15
              exact kz
            · refine own_via (fun _ => XS.ifYes X_241.here hx rfl (pc0 := 498) (pc' := 505) rfl (hb hby at_498) rfl ((if0 _ _).trans (feq (hv_245 : ¬ (z14 = (0 : Int32)))).2) (by decide) (by decide)) ?_
              show own_Go p e below _ (T_241.setTop (mkF m 505 #[.val (.int p1), .val (.int p2), .val (.long q3), .second, .val (.int p4), .val (.int p5), .val (.int p6), .val (.int (p1 &&& (3 : Int32))), .val (.ref b_1), .val (.int (4 : Int32)), .val (.ref b_198), .val (.ref b_218), .val (.int i_243), .val (.int z13), .val (.int z14), .unset] []))
              refine own_via (fun _ => XS.iconst X_241.here hx rfl (hb hby at_505)) ?_
              show own_Go p e below _ (T_241.setTop (mkF m 506 #[.val (.int p1), .val (.int p2), .val (.long q3), .second, .val (.int p4), .val (.int p5), .val (.int p6), .val (.int (p1 &&& (3 : Int32))), .val (.ref b_1), .val (.int (4 : Int32)), .val (.ref b_198), .val (.ref b_218), .val (.int i_243), .val (.int z13), .val (.int z14), .unset] [(.int (0 : Int32))]))
              rw [if_pos hv_244] at ez15
              rw [if_neg hv_245] at ez15
              subst ez15
              exact kz
          · refine own_via (fun _ => XS.ifYes X_241.here hx rfl (pc0 := 493) (pc' := 505) rfl (hb hby at_493) rfl ((if0 _ _).trans (feq (hv_244 : ¬ (z13 = (0 : Int32)))).2) (by decide) (by decide)) ?_
            show own_Go p e below _ (T_241.setTop (mkF m 505 #[.val (.int p1), .val (.int p2), .val (.long q3), .second, .val (.int p4), .val (.int p5), .val (.int p6), .val (.int (p1 &&& (3 : Int32))), .val (.ref b_1), .val (.int (4 : Int32)), .val (.ref b_198), .val (.ref b_218), .val (.int i_243), .val (.int z13), .val (.int z14), .unset] []))
            refine own_via (fun _ => XS.iconst X_241.here hx rfl (hb hby at_505)) ?_
            show own_Go p e below _ (T_241.setTop (mkF m 506 #[.val (.int p1), .val (.int p2), .val (.long q3), .second, .val (.int p4), .val (.int p5), .val (.int p6), .val (.int (p1 &&& (3 : Int32))), .val (.ref b_1), .val (.int (4 : Int32)), .val (.ref b_198), .val (.ref b_218), .val (.int i_243), .val (.int z13), .val (.int z14), .unset] [(.int (0 : Int32))]))
            rw [if_neg hv_244] at ez15
            subst ez15
            exact kz
        show own_Go p e below _ (T_241.setTop (mkF m 506 #[.val (.int p1), .val (.int p2), .val (.long q3), .second, .val (.int p4), .val (.int p5), .val (.int p6), .val (.int (p1 &&& (3 : Int32))), .val (.ref b_1), .val (.int (4 : Int32)), .val (.ref b_198), .val (.ref b_218), .val (.int i_243), .val (.int z13), .val (.int z14), .unset] [(.int z15)]))
        refine own_via (fun _ => XS.istore X_241.here hx rfl (hb hby at_506) rfl (l' := #[.val (.int p1), .val (.int p2), .val (.long q3), .second, .val (.int p4), .val (.int p5), .val (.int p6), .val (.int (p1 &&& (3 : Int32))), .val (.ref b_1), .val (.int (4 : Int32)), .val (.ref b_198), .val (.ref b_218), .val (.int i_243), .val (.int z13), .val (.int z14), .val (.int z15)]) rfl) ?_
        show own_Go p e below _ (T_241.setTop (mkF m 508 #[.val (.int p1), .val (.int p2), .val (.long q3), .second, .val (.int p4), .val (.int p5), .val (.int p6), .val (.int (p1 &&& (3 : Int32))), .val (.ref b_1), .val (.int (4 : Int32)), .val (.ref b_198), .val (.ref b_218), .val (.int i_243), .val (.int z13), .val (.int z14), .val (.int z15)] []))
        refine own_via (fun _ => XS.iload X_241.here hx rfl (hb hby at_508) rfl) ?_
        show own_Go p e below _ (T_241.setTop (mkF m 510 #[.val (.int p1), .val (.int p2), .val (.long q3), .second, .val (.int p4), .val (.int p5), .val (.int p6), .val (.int (p1 &&& (3 : Int32))), .val (.ref b_1), .val (.int (4 : Int32)), .val (.ref b_198), .val (.ref b_218), .val (.int i_243), .val (.int z13), .val (.int z14), .val (.int z15)] [(.int i_243)]))
        refine own_via (fun _ => XS.iload X_241.here hx rfl (hb hby at_510) rfl) ?_
        show own_Go p e below _ (T_241.setTop (mkF m 512 #[.val (.int p1), .val (.int p2), .val (.long q3), .second, .val (.int p4), .val (.int p5), .val (.int p6), .val (.int (p1 &&& (3 : Int32))), .val (.ref b_1), .val (.int (4 : Int32)), .val (.ref b_198), .val (.ref b_218), .val (.int i_243), .val (.int z13), .val (.int z14), .val (.int z15)] [(.int z15), (.int i_243)]))
        refine own_via (fun _ => XS.icmpNo X_241.here hx rfl (hb hby at_512) rfl (teq (own_fin q_241_0 (own_no (by simp) ez13) (own_no (by simp) ez14) ez15 : i_243 = z15)).2) ?_
        show own_Go p e below _ (T_241.setTop (mkF m 515 #[.val (.int p1), .val (.int p2), .val (.long q3), .second, .val (.int p4), .val (.int p5), .val (.int p6), .val (.int (p1 &&& (3 : Int32))), .val (.ref b_1), .val (.int (4 : Int32)), .val (.ref b_198), .val (.ref b_218), .val (.int i_243), .val (.int z13), .val (.int z14), .val (.int z15)] []))
        refine own_via (fun _ => XS.iconst X_241.here hx rfl (hb hby at_515)) ?_
        show own_Go p e below _ (T_241.setTop (mkF m 516 #[.val (.int p1), .val (.int p2), .val (.long q3), .second, .val (.int p4), .val (.int p5), .val (.int p6), .val (.int (p1 &&& (3 : Int32))), .val (.ref b_1), .val (.int (4 : Int32)), .val (.ref b_198), .val (.ref b_218), .val (.int i_243), .val (.int z13), .val (.int z14), .val (.int z15)] [(.int (1 : Int32))]))
        refine own_via (fun _ => XS.goto X_241.here hx rfl (pc0 := 516) (pc' := 520) rfl (hb hby at_516) (by decide) (by decide)) ?_
        show own_Go p e below _ (T_241.setTop (mkF m 520 #[.val (.int p1), .val (.int p2), .val (.long q3), .second, .val (.int p4), .val (.int p5), .val (.int p6), .val (.int (p1 &&& (3 : Int32))), .val (.ref b_1), .val (.int (4 : Int32)), .val (.ref b_198), .val (.ref b_218), .val (.int i_243), .val (.int z13), .val (.int z14), .val (.int z15)] [(.int (1 : Int32))]))
        have K_246 : Keep h0 T_241.heap [] := Keep.trans (ws := []) K_240 K_241q all0
        exact own_retvW X_241 hS_241 (Nat.le_refl _) Bd.notSynchronized hx Bd.returns rfl (Or.inl ⟨rfl, (by simp), _, rfl⟩) (hb hby at_520) (by decide) (by decide) ⟨rfl, N_241, K_246⟩
      · show own_Go p e below _ (T_36.setTop (mkF m 228 #[.val (.int p1), .val (.int p2), .val (.long q3), .second, .val (.int p4), .val (.int p5), .val (.int p6), .val (.int (p1 &&& (3 : Int32))), .val (.ref b_1), .val (.int (5 : Int32)), .unset, .unset, .unset, .unset, .unset, .unset] []))
        refine own_via (fun _ => XS.iload X_39.here hx rfl (hb hby at_228) rfl) ?_
        show own_Go p e below _ (T_36.setTop (mkF m 230 #[.val (.int p1), .val (.int p2), .val (.long q3), .second, .val (.int p4), .val (.int p5), .val (.int p6), .val (.int (p1 &&& (3 : Int32))), .val (.ref b_1), .val (.int (5 : Int32)), .unset, .unset, .unset, .unset, .unset, .unset] [(.int (5 : Int32))]))
        refine own_via (fun _ => XS.bipush X_39.here hx rfl (hb hby at_230)) ?_
        show own_Go p e below _ (T_36.setTop (mkF m 232 #[.val (.int p1), .val (.int p2), .val (.long q3), .second, .val (.int p4), .val (.int p5), .val (.int p6), .val (.int (p1 &&& (3 : Int32))), .val (.ref b_1), .val (.int (5 : Int32)), .unset, .unset, .unset, .unset, .unset, .unset] [(.int (7 : Int32)), (.int (5 : Int32))]))
        refine own_via (fun _ => XS.icmpYes X_39.here hx rfl (pc0 := 232) (pc' := 239) rfl (hb hby at_232) rfl (flt ((by decide) : ¬ ((7 : Int32) < (5 : Int32)))).2.2.2 (by decide) (by decide)) ?_
        show own_Go p e below _ (T_36.setTop (mkF m 239 #[.val (.int p1), .val (.int p2), .val (.long q3), .second, .val (.int p4), .val (.int p5), .val (.int p6), .val (.int (p1 &&& (3 : Int32))), .val (.ref b_1), .val (.int (5 : Int32)), .unset, .unset, .unset, .unset, .unset, .unset] []))
        refine own_via (fun _ => XS.iload X_39.here hx rfl (hb hby at_239) rfl) ?_
        show own_Go p e below _ (T_36.setTop (mkF m 241 #[.val (.int p1), .val (.int p2), .val (.long q3), .second, .val (.int p4), .val (.int p5), .val (.int p6), .val (.int (p1 &&& (3 : Int32))), .val (.ref b_1), .val (.int (5 : Int32)), .unset, .unset, .unset, .unset, .unset, .unset] [(.int (5 : Int32))]))
        obtain ⟨T_247, h_247, k_247, X_247, e_247, E_247, A_247, st_247⟩ := newP X_39 hx hZ (own_w hw 0 rfl) e_39 (g := (mkF m 241 #[.val (.int p1), .val (.int p2), .val (.long q3), .second, .val (.int p4), .val (.int p5), .val (.int p6), .val (.int (p1 &&& (3 : Int32))), .val (.ref b_1), .val (.int (5 : Int32)), .unset, .unset, .unset, .unset, .unset, .unset] [(.int (5 : Int32))])) rfl (hb hby at_241) rfl (by decide) (cap := 5) (by decide) (by decide) (by decide) (by decide)
        obtain ⟨b_247, g_247⟩ : ∃ z, z = h_38.size := ⟨_, rfl⟩
        rw [← g_247] at A_247 st_247
        have V_247 : Arv Z h_247 b_247 k_247 .char (5 : Int32) [(.int (0 : Int32)), (.int (0 : Int32)), (.int (0 : Int32)), (.int (0 : Int32)), (.int (0 : Int32))] (.int (0 : Int32)) := (Arv.new A_247 (by decide)).pad (pad_rep [] (.int (0 : Int32)) 5)
        refine own_via st_247 ?_
        show own_Go p e below _ (T_247.setTop (mkF m 243 #[.val (.int p1), .val (.int p2), .val (.long q3), .second, .val (.int p4), .val (.int p5), .val (.int p6), .val (.int (p1 &&& (3 : Int32))), .val (.ref b_1), .val (.int (5 : Int32)), .unset, .unset, .unset, .unset, .unset, .unset] [(.ref b_247)]))
        refine own_via (fun _ => XS.astore X_247.here hx rfl (hb hby at_243) rfl rfl (l' := #[.val (.int p1), .val (.int p2), .val (.long q3), .second, .val (.int p4), .val (.int p5), .val (.int p6), .val (.int (p1 &&& (3 : Int32))), .val (.ref b_1), .val (.int (5 : Int32)), .val (.ref b_247), .unset, .unset, .unset, .unset, .unset]) rfl) ?_
        show own_Go p e below _ (T_247.setTop (mkF m 245 #[.val (.int p1), .val (.int p2), .val (.long q3), .second, .val (.int p4), .val (.int p5), .val (.int p6), .val (.int (p1 &&& (3 : Int32))), .val (.ref b_1), .val (.int (5 : Int32)), .val (.ref b_247), .unset, .unset, .unset, .unset, .unset] []))
        refine own_via (fun _ => XS.iload X_247.here hx rfl (hb hby at_245) rfl) ?_
        show own_Go p e below _ (T_247.setTop (mkF m 247 #[.val (.int p1), .val (.int p2), .val (.long q3), .second, .val (.int p4), .val (.int p5), .val (.int p6), .val (.int (p1 &&& (3 : Int32))), .val (.ref b_1), .val (.int (5 : Int32)), .val (.ref b_247), .unset, .unset, .unset, .unset, .unset] [(.int (5 : Int32))]))
        refine own_via (fun _ => XS.ifNo X_247.here hx rfl (hb hby at_247) rfl ((if0 _ _).trans (tlt ((by decide) : (0 : Int32) < (5 : Int32))).2.2.2)) ?_
        show own_Go p e below _ (T_247.setTop (mkF m 250 #[.val (.int p1), .val (.int p2), .val (.long q3), .second, .val (.int p4), .val (.int p5), .val (.int p6), .val (.int (p1 &&& (3 : Int32))), .val (.ref b_1), .val (.int (5 : Int32)), .val (.ref b_247), .unset, .unset, .unset, .unset, .unset] []))
        refine own_via (fun _ => XS.aload X_247.here hx rfl (hb hby at_250) rfl rfl) ?_
        show own_Go p e below _ (T_247.setTop (mkF m 252 #[.val (.int p1), .val (.int p2), .val (.long q3), .second, .val (.int p4), .val (.int p5), .val (.int p6), .val (.int (p1 &&& (3 : Int32))), .val (.ref b_1), .val (.int (5 : Int32)), .val (.ref b_247), .unset, .unset, .unset, .unset, .unset] [(.ref b_247)]))
        refine own_via (fun _ => XS.iconst X_247.here hx rfl (hb hby at_252)) ?_
        show own_Go p e below _ (T_247.setTop (mkF m 253 #[.val (.int p1), .val (.int p2), .val (.long q3), .second, .val (.int p4), .val (.int p5), .val (.int p6), .val (.int (p1 &&& (3 : Int32))), .val (.ref b_1), .val (.int (5 : Int32)), .val (.ref b_247), .unset, .unset, .unset, .unset, .unset] [(.int (0 : Int32)), (.ref b_247)]))
        refine own_via (fun _ => XS.aload X_247.here hx rfl (hb hby at_253) rfl rfl) ?_
        show own_Go p e below _ (T_247.setTop (mkF m 255 #[.val (.int p1), .val (.int p2), .val (.long q3), .second, .val (.int p4), .val (.int p5), .val (.int p6), .val (.int (p1 &&& (3 : Int32))), .val (.ref b_1), .val (.int (5 : Int32)), .val (.ref b_247), .unset, .unset, .unset, .unset, .unset] [(.ref b_1), (.int (0 : Int32)), (.ref b_247)]))
        refine own_via (fun _ => XS.iconst X_247.here hx rfl (hb hby at_255)) ?_
        show own_Go p e below _ (T_247.setTop (mkF m 256 #[.val (.int p1), .val (.int p2), .val (.long q3), .second, .val (.int p4), .val (.int p5), .val (.int p6), .val (.int (p1 &&& (3 : Int32))), .val (.ref b_1), .val (.int (5 : Int32)), .val (.ref b_247), .unset, .unset, .unset, .unset, .unset] [(.int (0 : Int32)), (.ref b_1), (.int (0 : Int32)), (.ref b_247)]))
        have K_248 : Keep h_38 h_247 [] := (Keep.refl h_38 []).ext E_247
        obtain ⟨cl_249, Ar_249, q_249, S_249, M_249, H_249, G_249⟩ := (id (VE.keep K_248 nin0))
        have in_249 : ¬ ((0 : Int32) < 0 ∨ cl_249.slots.size ≤ ((0 : Int32)).toNatClampNeg) := inb_of S_249 ⟨by decide, by decide⟩
        refine own_via (X_247.caload hx (j := (0 : Int32)) (v := (.int e0)) (by rw [e_247]; exact Ar_249.1) (State.isArrayOf_alike hZ.alike Ar_249.2.1) Ar_249.2.2 in_249 (Has.at H_249 in_249 rfl) (g := (mkF m 256 #[.val (.int p1), .val (.int p2), .val (.long q3), .second, .val (.int p4), .val (.int p5), .val (.int p6), .val (.int (p1 &&& (3 : Int32))), .val (.ref b_1), .val (.int (5 : Int32)), .val (.ref b_247), .unset, .unset, .unset, .unset, .unset] [(.int (0 : Int32)), (.ref b_1), (.int (0 : Int32)), (.ref b_247)])) rfl rfl (hb hby at_256)) ?_
        show own_Go p e below _ (T_247.setTop (mkF m 257 #[.val (.int p1), .val (.int p2), .val (.long q3), .second, .val (.int p4), .val (.int p5), .val (.int p6), .val (.int (p1 &&& (3 : Int32))), .val (.ref b_1), .val (.int (5 : Int32)), .val (.ref b_247), .unset, .unset, .unset, .unset, .unset] [(.int e0), (.int (0 : Int32)), (.ref b_247)]))
        obtain ⟨cl_250, Ar_250, q_250, S_250, M_250, H_250, G_250⟩ := (id V_247)
        obtain ⟨T_250, h_250, X_250, e_250, W_250, st_250⟩ := stC X_247 hx hZ e_247 Ar_250 (j := (0 : Int32)) (inb_of S_250 ⟨by decide, by decide⟩) (g := (mkF m 257 #[.val (.int p1), .val (.int p2), .val (.long q3), .second, .val (.int p4), .val (.int p5), .val (.int p6), .val (.int (p1 &&& (3 : Int32))), .val (.ref b_1), .val (.int (5 : Int32)), .val (.ref b_247), .unset, .unset, .unset, .unset, .unset] [(.int e0), (.int (0 : Int32)), (.ref b_247)])) rfl rfl (hb hby at_257)
        have V_250 : Arv Z h_250 b_247 k_247 .char (5 : Int32) [(.int (nar .char e0)), (.int (0 : Int32)), (.int (0 : Int32)), (.int (0 : Int32)), (.int (0 : Int32))] (.int (0 : Int32)) := Arv.set Ar_250 q_250 S_250 M_250 H_250 G_250 (fits_nar_char _) W_250 0 rfl (Nat.le_of_ble_eq_true rfl)
        have K_251 : Keep h0 h_28 [] := Keep.wr (ws := []) K_26 W_28 (Or.inr (Nat.le_of_eq g_1.symm))
        have K_252 : Keep h0 h_33 [] := Keep.trans (ws := []) K_251 K_34 (allS (Or.inr (Nat.le_of_eq g_1.symm)) all0)
        have K_253 : Keep h0 h_38 [] := Keep.trans (ws := []) K_252 K_39 (allS (Or.inr (Nat.le_of_eq g_1.symm)) all0)
        have N_250 := Fr.snoc X_250 N_39 (Nat.le_trans Z0 (Nat.le_trans K_253.1 (Nat.le_of_eq g_247.symm)))
        refine own_via st_250 ?_
        show own_Go p e below _ (T_250.setTop (mkF m 258 #[.val (.int p1), .val (.int p2), .val (.long q3), .second, .val (.int p4), .val (.int p5), .val (.int p6), .val (.int (p1 &&& (3 : Int32))), .val (.ref b_1), .val (.int (5 : Int32)), .val (.ref b_247), .unset, .unset, .unset, .unset, .unset] []))
        have V_254 : Arv Z h_250 b_247 k_247 .char (5 : Int32) [(.int e0), (.int (0 : Int32)), (.int (0 : Int32)), (.int (0 : Int32)), (.int (0 : Int32))] (.int (0 : Int32)) := by have q := V_250; rwa [own_nar he0] at q
        refine own_via (fun _ => XS.iload X_250.here hx rfl (hb hby at_258) rfl) ?_
        show own_Go p e below _ (T_250.setTop (mkF m 260 #[.val (.int p1), .val (.int p2), .val (.long q3), .second, .val (.int p4), .val (.int p5), .val (.int p6), .val (.int (p1 &&& (3 : Int32))), .val (.ref b_1), .val (.int (5 : Int32)), .val (.ref b_247), .unset, .unset, .unset, .unset, .unset] [(.int (5 : Int32))]))
        refine own_via (fun _ => XS.iconst X_250.here hx rfl (hb hby at_260)) ?_
        show own_Go p e below _ (T_250.setTop (mkF m 261 #[.val (.int p1), .val (.int p2), .val (.long q3), .second, .val (.int p4), .val (.int p5), .val (.int p6), .val (.int (p1 &&& (3 : Int32))), .val (.ref b_1), .val (.int (5 : Int32)), .val (.ref b_247), .unset, .unset, .unset, .unset, .unset] [(.int (1 : Int32)), (.int (5 : Int32))]))
        refine own_via (fun _ => XS.icmpNo X_250.here hx rfl (hb hby at_261) rfl (tlt ((by decide) : (1 : Int32) < (5 : Int32))).2.2.2) ?_
        show own_Go p e below _ (T_250.setTop (mkF m 264 #[.val (.int p1), .val (.int p2), .val (.long q3), .second, .val (.int p4), .val (.int p5), .val (.int p6), .val (.int (p1 &&& (3 : Int32))), .val (.ref b_1), .val (.int (5 : Int32)), .val (.ref b_247), .unset, .unset, .unset, .unset, .unset] []))
        refine own_via (fun _ => XS.aload X_250.here hx rfl (hb hby at_264) rfl rfl) ?_
        show own_Go p e below _ (T_250.setTop (mkF m 266 #[.val (.int p1), .val (.int p2), .val (.long q3), .second, .val (.int p4), .val (.int p5), .val (.int p6), .val (.int (p1 &&& (3 : Int32))), .val (.ref b_1), .val (.int (5 : Int32)), .val (.ref b_247), .unset, .unset, .unset, .unset, .unset] [(.ref b_247)]))
        refine own_via (fun _ => XS.iconst X_250.here hx rfl (hb hby at_266)) ?_
        show own_Go p e below _ (T_250.setTop (mkF m 267 #[.val (.int p1), .val (.int p2), .val (.long q3), .second, .val (.int p4), .val (.int p5), .val (.int p6), .val (.int (p1 &&& (3 : Int32))), .val (.ref b_1), .val (.int (5 : Int32)), .val (.ref b_247), .unset, .unset, .unset, .unset, .unset] [(.int (1 : Int32)), (.ref b_247)]))
        refine own_via (fun _ => XS.aload X_250.here hx rfl (hb hby at_267) rfl rfl) ?_
        show own_Go p e below _ (T_250.setTop (mkF m 269 #[.val (.int p1), .val (.int p2), .val (.long q3), .second, .val (.int p4), .val (.int p5), .val (.int p6), .val (.int (p1 &&& (3 : Int32))), .val (.ref b_1), .val (.int (5 : Int32)), .val (.ref b_247), .unset, .unset, .unset, .unset, .unset] [(.ref b_1), (.int (1 : Int32)), (.ref b_247)]))
        refine own_via (fun _ => XS.iconst X_250.here hx rfl (hb hby at_269)) ?_
        show own_Go p e below _ (T_250.setTop (mkF m 270 #[.val (.int p1), .val (.int p2), .val (.long q3), .second, .val (.int p4), .val (.int p5), .val (.int p6), .val (.int (p1 &&& (3 : Int32))), .val (.ref b_1), .val (.int (5 : Int32)), .val (.ref b_247), .unset, .unset, .unset, .unset, .unset] [(.int (1 : Int32)), (.ref b_1), (.int (1 : Int32)), (.ref b_247)]))
        have K_255 : Keep h_38 h_250 [] := Keep.wr (ws := []) K_248 W_250 (Or.inr (Nat.le_of_eq g_247.symm))
        obtain ⟨cl_256, Ar_256, q_256, S_256, M_256, H_256, G_256⟩ := (id (VE.keep K_255 nin0))
        have in_256 : ¬ ((1 : Int32) < 0 ∨ cl_256.slots.size ≤ ((1 : Int32)).toNatClampNeg) := inb_of S_256 ⟨by decide, by decide⟩
        refine own_via (X_250.caload hx (j := (1 : Int32)) (v := (.int e1)) (by rw [e_250]; exact Ar_256.1) (State.isArrayOf_alike hZ.alike Ar_256.2.1) Ar_256.2.2 in_256 (Has.at H_256 in_256 rfl) (g := (mkF m 270 #[.val (.int p1), .val (.int p2), .val (.long q3), .second, .val (.int p4), .val (.int p5), .val (.int p6), .val (.int (p1 &&& (3 : Int32))), .val (.ref b_1), .val (.int (5 : Int32)), .val (.ref b_247), .unset, .unset, .unset, .unset, .unset] [(.int (1 : Int32)), (.ref b_1), (.int (1 : Int32)), (.ref b_247)])) rfl rfl (hb hby at_270)) ?_
        show own_Go p e below _ (T_250.setTop (mkF m 271 #[.val (.int p1), .val (.int p2), .val (.long q3), .second, .val (.int p4), .val (.int p5), .val (.int p6), .val (.int (p1 &&& (3 : Int32))), .val (.ref b_1), .val (.int (5 : Int32)), .val (.ref b_247), .unset, .unset, .unset, .unset, .unset] [(.int e1), (.int (1 : Int32)), (.ref b_247)]))
        obtain ⟨cl_257, Ar_257, q_257, S_257, M_257, H_257, G_257⟩ := (id V_254)
        obtain ⟨T_257, h_257, X_257, e_257, W_257, st_257⟩ := stC X_250 hx hZ e_250 Ar_257 (j := (1 : Int32)) (inb_of S_257 ⟨by decide, by decide⟩) (g := (mkF m 271 #[.val (.int p1), .val (.int p2), .val (.long q3), .second, .val (.int p4), .val (.int p5), .val (.int p6), .val (.int (p1 &&& (3 : Int32))), .val (.ref b_1), .val (.int (5 : Int32)), .val (.ref b_247), .unset, .unset, .unset, .unset, .unset] [(.int e1), (.int (1 : Int32)), (.ref b_247)])) rfl rfl (hb hby at_271)
        have V_257 : Arv Z h_257 b_247 k_247 .char (5 : Int32) [(.int e0), (.int (nar .char e1)), (.int (0 : Int32)), (.int (0 : Int32)), (.int (0 : Int32))] (.int (0 : Int32)) := Arv.set Ar_257 q_257 S_257 M_257 H_257 G_257 (fits_nar_char _) W_257 1 rfl (Nat.le_of_ble_eq_true rfl)
        have N_257 := Fr.snoc X_257 N_250 (Nat.le_trans Z0 (Nat.le_trans K_253.1 (Nat.le_of_eq g_247.symm)))
        refine own_via st_257 ?_
        show own_Go p e below _ (T_257.setTop (mkF m 272 #[.val (.int p1), .val (.int p2), .val (.long q3), .second, .val (.int p4), .val (.int p5), .val (.int p6), .val (.int (p1 &&& (3 : Int32))), .val (.ref b_1), .val (.int (5 : Int32)), .val (.ref b_247), .unset, .unset, .unset, .unset, .unset] []))
        have V_258 : Arv Z h_257 b_247 k_247 .char (5 : Int32) [(.int e0), (.int e1), (.int (0 : Int32)), (.int (0 : Int32)), (.int (0 : Int32))] (.int (0 : Int32)) := by have q := V_257; rwa [own_nar he1] at q
        refine own_via (fun _ => XS.iload X_257.here hx rfl (hb hby at_272) rfl) ?_
        show own_Go p e below _ (T_257.setTop (mkF m 274 #[.val (.int p1), .val (.int p2), .val (.long q3), .second, .val (.int p4), .val (.int p5), .val (.int p6), .val (.int (p1 &&& (3 : Int32))), .val (.ref b_1), .val (.int (5 : Int32)), .val (.ref b_247), .unset, .unset, .unset, .unset, .unset] [(.int (5 : Int32))]))
        refine own_via (fun _ => XS.iconst X_257.here hx rfl (hb hby at_274)) ?_
        show own_Go p e below _ (T_257.setTop (mkF m 275 #[.val (.int p1), .val (.int p2), .val (.long q3), .second, .val (.int p4), .val (.int p5), .val (.int p6), .val (.int (p1 &&& (3 : Int32))), .val (.ref b_1), .val (.int (5 : Int32)), .val (.ref b_247), .unset, .unset, .unset, .unset, .unset] [(.int (2 : Int32)), (.int (5 : Int32))]))
        refine own_via (fun _ => XS.icmpNo X_257.here hx rfl (hb hby at_275) rfl (tlt ((by decide) : (2 : Int32) < (5 : Int32))).2.2.2) ?_
        show own_Go p e below _ (T_257.setTop (mkF m 278 #[.val (.int p1), .val (.int p2), .val (.long q3), .second, .val (.int p4), .val (.int p5), .val (.int p6), .val (.int (p1 &&& (3 : Int32))), .val (.ref b_1), .val (.int (5 : Int32)), .val (.ref b_247), .unset, .unset, .unset, .unset, .unset] []))
        refine own_via (fun _ => XS.aload X_257.here hx rfl (hb hby at_278) rfl rfl) ?_
        show own_Go p e below _ (T_257.setTop (mkF m 280 #[.val (.int p1), .val (.int p2), .val (.long q3), .second, .val (.int p4), .val (.int p5), .val (.int p6), .val (.int (p1 &&& (3 : Int32))), .val (.ref b_1), .val (.int (5 : Int32)), .val (.ref b_247), .unset, .unset, .unset, .unset, .unset] [(.ref b_247)]))
        refine own_via (fun _ => XS.iconst X_257.here hx rfl (hb hby at_280)) ?_
        show own_Go p e below _ (T_257.setTop (mkF m 281 #[.val (.int p1), .val (.int p2), .val (.long q3), .second, .val (.int p4), .val (.int p5), .val (.int p6), .val (.int (p1 &&& (3 : Int32))), .val (.ref b_1), .val (.int (5 : Int32)), .val (.ref b_247), .unset, .unset, .unset, .unset, .unset] [(.int (2 : Int32)), (.ref b_247)]))
        refine own_via (fun _ => XS.aload X_257.here hx rfl (hb hby at_281) rfl rfl) ?_
        show own_Go p e below _ (T_257.setTop (mkF m 283 #[.val (.int p1), .val (.int p2), .val (.long q3), .second, .val (.int p4), .val (.int p5), .val (.int p6), .val (.int (p1 &&& (3 : Int32))), .val (.ref b_1), .val (.int (5 : Int32)), .val (.ref b_247), .unset, .unset, .unset, .unset, .unset] [(.ref b_1), (.int (2 : Int32)), (.ref b_247)]))
        refine own_via (fun _ => XS.iconst X_257.here hx rfl (hb hby at_283)) ?_
        show own_Go p e below _ (T_257.setTop (mkF m 284 #[.val (.int p1), .val (.int p2), .val (.long q3), .second, .val (.int p4), .val (.int p5), .val (.int p6), .val (.int (p1 &&& (3 : Int32))), .val (.ref b_1), .val (.int (5 : Int32)), .val (.ref b_247), .unset, .unset, .unset, .unset, .unset] [(.int (2 : Int32)), (.ref b_1), (.int (2 : Int32)), (.ref b_247)]))
        have K_259 : Keep h_38 h_257 [] := Keep.wr (ws := []) K_255 W_257 (Or.inr (Nat.le_of_eq g_247.symm))
        obtain ⟨cl_260, Ar_260, q_260, S_260, M_260, H_260, G_260⟩ := (id (VE.keep K_259 nin0))
        have in_260 : ¬ ((2 : Int32) < 0 ∨ cl_260.slots.size ≤ ((2 : Int32)).toNatClampNeg) := inb_of S_260 ⟨by decide, by decide⟩
        refine own_via (X_257.caload hx (j := (2 : Int32)) (v := (.int e2)) (by rw [e_257]; exact Ar_260.1) (State.isArrayOf_alike hZ.alike Ar_260.2.1) Ar_260.2.2 in_260 (Has.at H_260 in_260 rfl) (g := (mkF m 284 #[.val (.int p1), .val (.int p2), .val (.long q3), .second, .val (.int p4), .val (.int p5), .val (.int p6), .val (.int (p1 &&& (3 : Int32))), .val (.ref b_1), .val (.int (5 : Int32)), .val (.ref b_247), .unset, .unset, .unset, .unset, .unset] [(.int (2 : Int32)), (.ref b_1), (.int (2 : Int32)), (.ref b_247)])) rfl rfl (hb hby at_284)) ?_
        show own_Go p e below _ (T_257.setTop (mkF m 285 #[.val (.int p1), .val (.int p2), .val (.long q3), .second, .val (.int p4), .val (.int p5), .val (.int p6), .val (.int (p1 &&& (3 : Int32))), .val (.ref b_1), .val (.int (5 : Int32)), .val (.ref b_247), .unset, .unset, .unset, .unset, .unset] [(.int e2), (.int (2 : Int32)), (.ref b_247)]))
        obtain ⟨cl_261, Ar_261, q_261, S_261, M_261, H_261, G_261⟩ := (id V_258)
        obtain ⟨T_261, h_261, X_261, e_261, W_261, st_261⟩ := stC X_257 hx hZ e_257 Ar_261 (j := (2 : Int32)) (inb_of S_261 ⟨by decide, by decide⟩) (g := (mkF m 285 #[.val (.int p1), .val (.int p2), .val (.long q3), .second, .val (.int p4), .val (.int p5), .val (.int p6), .val (.int (p1 &&& (3 : Int32))), .val (.ref b_1), .val (.int (5 : Int32)), .val (.ref b_247), .unset, .unset, .unset, .unset, .unset] [(.int e2), (.int (2 : Int32)), (.ref b_247)])) rfl rfl (hb hby at_285)
        have V_261 : Arv Z h_261 b_247 k_247 .char (5 : Int32) [(.int e0), (.int e1), (.int (nar .char e2)), (.int (0 : Int32)), (.int (0 : Int32))] (.int (0 : Int32)) := Arv.set Ar_261 q_261 S_261 M_261 H_261 G_261 (fits_nar_char _) W_261 2 rfl (Nat.le_of_ble_eq_true rfl)
        have N_261 := Fr.snoc X_261 N_257 (Nat.le_trans Z0 (Nat.le_trans K_253.1 (Nat.le_of_eq g_247.symm)))
        refine own_via st_261 ?_
        show own_Go p e below _ (T_261.setTop (mkF m 286 #[.val (.int p1), .val (.int p2), .val (.long q3), .second, .val (.int p4), .val (.int p5), .val (.int p6), .val (.int (p1 &&& (3 : Int32))), .val (.ref b_1), .val (.int (5 : Int32)), .val (.ref b_247), .unset, .unset, .unset, .unset, .unset] []))
        have V_262 : Arv Z h_261 b_247 k_247 .char (5 : Int32) [(.int e0), (.int e1), (.int e2), (.int (0 : Int32)), (.int (0 : Int32))] (.int (0 : Int32)) := by have q := V_261; rwa [own_nar he2] at q
        refine own_via (fun _ => XS.iload X_261.here hx rfl (hb hby at_286) rfl) ?_
        show own_Go p e below _ (T_261.setTop (mkF m 288 #[.val (.int p1), .val (.int p2), .val (.long q3), .second, .val (.int p4), .val (.int p5), .val (.int p6), .val (.int (p1 &&& (3 : Int32))), .val (.ref b_1), .val (.int (5 : Int32)), .val (.ref b_247), .unset, .unset, .unset, .unset, .unset] [(.int (5 : Int32))]))
        refine own_via (fun _ => XS.iconst X_261.here hx rfl (hb hby at_288)) ?_
        show own_Go p e below _ (T_261.setTop (mkF m 289 #[.val (.int p1), .val (.int p2), .val (.long q3), .second, .val (.int p4), .val (.int p5), .val (.int p6), .val (.int (p1 &&& (3 : Int32))), .val (.ref b_1), .val (.int (5 : Int32)), .val (.ref b_247), .unset, .unset, .unset, .unset, .unset] [(.int (3 : Int32)), (.int (5 : Int32))]))
        refine own_via (fun _ => XS.icmpNo X_261.here hx rfl (hb hby at_289) rfl (tlt ((by decide) : (3 : Int32) < (5 : Int32))).2.2.2) ?_
        show own_Go p e below _ (T_261.setTop (mkF m 292 #[.val (.int p1), .val (.int p2), .val (.long q3), .second, .val (.int p4), .val (.int p5), .val (.int p6), .val (.int (p1 &&& (3 : Int32))), .val (.ref b_1), .val (.int (5 : Int32)), .val (.ref b_247), .unset, .unset, .unset, .unset, .unset] []))
        refine own_via (fun _ => XS.aload X_261.here hx rfl (hb hby at_292) rfl rfl) ?_
        show own_Go p e below _ (T_261.setTop (mkF m 294 #[.val (.int p1), .val (.int p2), .val (.long q3), .second, .val (.int p4), .val (.int p5), .val (.int p6), .val (.int (p1 &&& (3 : Int32))), .val (.ref b_1), .val (.int (5 : Int32)), .val (.ref b_247), .unset, .unset, .unset, .unset, .unset] [(.ref b_247)]))
        refine own_via (fun _ => XS.iconst X_261.here hx rfl (hb hby at_294)) ?_
        show own_Go p e below _ (T_261.setTop (mkF m 295 #[.val (.int p1), .val (.int p2), .val (.long q3), .second, .val (.int p4), .val (.int p5), .val (.int p6), .val (.int (p1 &&& (3 : Int32))), .val (.ref b_1), .val (.int (5 : Int32)), .val (.ref b_247), .unset, .unset, .unset, .unset, .unset] [(.int (3 : Int32)), (.ref b_247)]))
        refine own_via (fun _ => XS.aload X_261.here hx rfl (hb hby at_295) rfl rfl) ?_
        show own_Go p e below _ (T_261.setTop (mkF m 297 #[.val (.int p1), .val (.int p2), .val (.long q3), .second, .val (.int p4), .val (.int p5), .val (.int p6), .val (.int (p1 &&& (3 : Int32))), .val (.ref b_1), .val (.int (5 : Int32)), .val (.ref b_247), .unset, .unset, .unset, .unset, .unset] [(.ref b_1), (.int (3 : Int32)), (.ref b_247)]))
        refine own_via (fun _ => XS.iconst X_261.here hx rfl (hb hby at_297)) ?_
        show own_Go p e below _ (T_261.setTop (mkF m 298 #[.val (.int p1), .val (.int p2), .val (.long q3), .second, .val (.int p4), .val (.int p5), .val (.int p6), .val (.int (p1 &&& (3 : Int32))), .val (.ref b_1), .val (.int (5 : Int32)), .val (.ref b_247), .unset, .unset, .unset, .unset, .unset] [(.int (3 : Int32)), (.ref b_1), (.int (3 : Int32)), (.ref b_247)]))
        have K_263 : Keep h_38 h_261 [] := Keep.wr (ws := []) K_259 W_261 (Or.inr (Nat.le_of_eq g_247.symm))
        obtain ⟨cl_264, Ar_264, q_264, S_264, M_264, H_264, G_264⟩ := (id (VE.keep K_263 nin0))
        have in_264 : ¬ ((3 : Int32) < 0 ∨ cl_264.slots.size ≤ ((3 : Int32)).toNatClampNeg) := inb_of S_264 ⟨by decide, by decide⟩
        refine own_via (X_261.caload hx (j := (3 : Int32)) (v := (.int e3)) (by rw [e_261]; exact Ar_264.1) (State.isArrayOf_alike hZ.alike Ar_264.2.1) Ar_264.2.2 in_264 (Has.at H_264 in_264 rfl) (g := (mkF m 298 #[.val (.int p1), .val (.int p2), .val (.long q3), .second, .val (.int p4), .val (.int p5), .val (.int p6), .val (.int (p1 &&& (3 : Int32))), .val (.ref b_1), .val (.int (5 : Int32)), .val (.ref b_247), .unset, .unset, .unset, .unset, .unset] [(.int (3 : Int32)), (.ref b_1), (.int (3 : Int32)), (.ref b_247)])) rfl rfl (hb hby at_298)) ?_
        show own_Go p e below _ (T_261.setTop (mkF m 299 #[.val (.int p1), .val (.int p2), .val (.long q3), .second, .val (.int p4), .val (.int p5), .val (.int p6), .val (.int (p1 &&& (3 : Int32))), .val (.ref b_1), .val (.int (5 : Int32)), .val (.ref b_247), .unset, .unset, .unset, .unset, .unset] [(.int e3), (.int (3 : Int32)), (.ref b_247)]))
        obtain ⟨cl_265, Ar_265, q_265, S_265, M_265, H_265, G_265⟩ := (id V_262)
        obtain ⟨T_265, h_265, X_265, e_265, W_265, st_265⟩ := stC X_261 hx hZ e_261 Ar_265 (j := (3 : Int32)) (inb_of S_265 ⟨by decide, by decide⟩) (g := (mkF m 299 #[.val (.int p1), .val (.int p2), .val (.long q3), .second, .val (.int p4), .val (.int p5), .val (.int p6), .val (.int (p1 &&& (3 : Int32))), .val (.ref b_1), .val (.int (5 : Int32)), .val (.ref b_247), .unset, .unset, .unset, .unset, .unset] [(.int e3), (.int (3 : Int32)), (.ref b_247)])) rfl rfl (hb hby at_299)
        have V_265 : Arv Z h_265 b_247 k_247 .char (5 : Int32) [(.int e0), (.int e1), (.int e2), (.int (nar .char e3)), (.int (0 : Int32))] (.int (0 : Int32)) := Arv.set Ar_265 q_265 S_265 M_265 H_265 G_265 (fits_nar_char _) W_265 3 rfl (Nat.le_of_ble_eq_true rfl)
        have N_265 := Fr.snoc X_265 N_261 (Nat.le_trans Z0 (Nat.le_trans K_253.1 (Nat.le_of_eq g_247.symm)))
        refine own_via st_265 ?_
        show own_Go p e below _ (T_265.setTop (mkF m 300 #[.val (.int p1), .val (.int p2), .val (.long q3), .second, .val (.int p4), .val (.int p5), .val (.int p6), .val (.int (p1 &&& (3 : Int32))), .val (.ref b_1), .val (.int (5 : Int32)), .val (.ref b_247), .unset, .unset, .unset, .unset, .unset] []))
        have V_266 : Arv Z h_265 b_247 k_247 .char (5 : Int32) [(.int e0), (.int e1), (.int e2), (.int e3), (.int (0 : Int32))] (.int (0 : Int32)) := by have q := V_265; rwa [own_nar he3] at q
        refine own_via (fun _ => XS.iload X_265.here hx rfl (hb hby at_300) rfl) ?_
        show own_Go p e below _ (T_265.setTop (mkF m 302 #[.val (.int p1), .val (.int p2), .val (.long q3), .second, .val (.int p4), .val (.int p5), .val (.int p6), .val (.int (p1 &&& (3 : Int32))), .val (.ref b_1), .val (.int (5 : Int32)), .val (.ref b_247), .unset, .unset, .unset, .unset, .unset] [(.int (5 : Int32))]))
        refine own_via (fun _ => XS.iconst X_265.here hx rfl (hb hby at_302)) ?_
        show own_Go p e below _ (T_265.setTop (mkF m 303 #[.val (.int p1), .val (.int p2), .val (.long q3), .second, .val (.int p4), .val (.int p5), .val (.int p6), .val (.int (p1 &&& (3 : Int32))), .val (.ref b_1), .val (.int (5 : Int32)), .val (.ref b_247), .unset, .unset, .unset, .unset, .unset] [(.int (4 : Int32)), (.int (5 : Int32))]))
        refine own_via (fun _ => XS.icmpNo X_265.here hx rfl (hb hby at_303) rfl (tlt ((by decide) : (4 : Int32) < (5 : Int32))).2.2.2) ?_
        show own_Go p e below _ (T_265.setTop (mkF m 306 #[.val (.int p1), .val (.int p2), .val (.long q3), .second, .val (.int p4), .val (.int p5), .val (.int p6), .val (.int (p1 &&& (3 : Int32))), .val (.ref b_1), .val (.int (5 : Int32)), .val (.ref b_247), .unset, .unset, .unset, .unset, .unset] []))
        refine own_via (fun _ => XS.aload X_265.here hx rfl (hb hby at_306) rfl rfl) ?_
        show own_Go p e below _ (T_265.setTop (mkF m 308 #[.val (.int p1), .val (.int p2), .val (.long q3), .second, .val (.int p4), .val (.int p5), .val (.int p6), .val (.int (p1 &&& (3 : Int32))), .val (.ref b_1), .val (.int (5 : Int32)), .val (.ref b_247), .unset, .unset, .unset, .unset, .unset] [(.ref b_247)]))
        refine own_via (fun _ => XS.iconst X_265.here hx rfl (hb hby at_308)) ?_
        show own_Go p e below _ (T_265.setTop (mkF m 309 #[.val (.int p1), .val (.int p2), .val (.long q3), .second, .val (.int p4), .val (.int p5), .val (.int p6), .val (.int (p1 &&& (3 : Int32))), .val (.ref b_1), .val (.int (5 : Int32)), .val (.ref b_247), .unset, .unset, .unset, .unset, .unset] [(.int (4 : Int32)), (.ref b_247)]))
        refine own_via (fun _ => XS.aload X_265.here hx rfl (hb hby at_309) rfl rfl) ?_
        show own_Go p e below _ (T_265.setTop (mkF m 311 #[.val (.int p1), .val (.int p2), .val (.long q3), .second, .val (.int p4), .val (.int p5), .val (.int p6), .val (.int (p1 &&& (3 : Int32))), .val (.ref b_1), .val (.int (5 : Int32)), .val (.ref b_247), .unset, .unset, .unset, .unset, .unset] [(.ref b_1), (.int (4 : Int32)), (.ref b_247)]))
        refine own_via (fun _ => XS.iconst X_265.here hx rfl (hb hby at_311)) ?_
        show own_Go p e below _ (T_265.setTop (mkF m 312 #[.val (.int p1), .val (.int p2), .val (.long q3), .second, .val (.int p4), .val (.int p5), .val (.int p6), .val (.int (p1 &&& (3 : Int32))), .val (.ref b_1), .val (.int (5 : Int32)), .val (.ref b_247), .unset, .unset, .unset, .unset, .unset] [(.int (4 : Int32)), (.ref b_1), (.int (4 : Int32)), (.ref b_247)]))
        have K_267 : Keep h_38 h_265 [] := Keep.wr (ws := []) K_263 W_265 (Or.inr (Nat.le_of_eq g_247.symm))
        obtain ⟨cl_268, Ar_268, q_268, S_268, M_268, H_268, G_268⟩ := (id (VE.keep K_267 nin0))
        have in_268 : ¬ ((4 : Int32) < 0 ∨ cl_268.slots.size ≤ ((4 : Int32)).toNatClampNeg) := inb_of S_268 ⟨by decide, by decide⟩
        refine own_via (X_265.caload hx (j := (4 : Int32)) (v := (.int e4)) (by rw [e_265]; exact Ar_268.1) (State.isArrayOf_alike hZ.alike Ar_268.2.1) Ar_268.2.2 in_268 (Has.at H_268 in_268 rfl) (g := (mkF m 312 #[.val (.int p1), .val (.int p2), .val (.long q3), .second, .val (.int p4), .val (.int p5), .val (.int p6), .val (.int (p1 &&& (3 : Int32))), .val (.ref b_1), .val (.int (5 : Int32)), .val (.ref b_247), .unset, .unset, .unset, .unset, .unset] [(.int (4 : Int32)), (.ref b_1), (.int (4 : Int32)), (.ref b_247)])) rfl rfl (hb hby at_312)) ?_
        show own_Go p e below _ (T_265.setTop (mkF m 313 #[.val (.int p1), .val (.int p2), .val (.long q3), .second, .val (.int p4), .val (.int p5), .val (.int p6), .val (.int (p1 &&& (3 : Int32))), .val (.ref b_1), .val (.int (5 : Int32)), .val (.ref b_247), .unset, .unset, .unset, .unset, .unset] [(.int e4), (.int (4 : Int32)), (.ref b_247)]))
        obtain ⟨cl_269, Ar_269, q_269, S_269, M_269, H_269, G_269⟩ := (id V_266)
        obtain ⟨T_269, h_269, X_269, e_269, W_269, st_269⟩ := stC X_265 hx hZ e_265 Ar_269 (j := (4 : Int32)) (inb_of S_269 ⟨by decide, by decide⟩) (g := (mkF m 313 #[.val (.int p1), .val (.int p2), .val (.long q3), .second, .val (.int p4), .val (.int p5), .val (.int p6), .val (.int (p1 &&& (3 : Int32))), .val (.ref b_1), .val (.int (5 : Int32)), .val (.ref b_247), .unset, .unset, .unset, .unset, .unset] [(.int e4), (.int (4 : Int32)), (.ref b_247)])) rfl rfl (hb hby at_313)
        have V_269 : Arv Z h_269 b_247 k_247 .char (5 : Int32) [(.int e0), (.int e1), (.int e2), (.int e3), (.int (nar .char e4))] (.int (0 : Int32)) := Arv.set Ar_269 q_269 S_269 M_269 H_269 G_269 (fits_nar_char _) W_269 4 rfl (Nat.le_of_ble_eq_true rfl)
        have N_269 := Fr.snoc X_269 N_265 (Nat.le_trans Z0 (Nat.le_trans K_253.1 (Nat.le_of_eq g_247.symm)))
        refine own_via st_269 ?_
        show own_Go p e below _ (T_269.setTop (mkF m 314 #[.val (.int p1), .val (.int p2), .val (.long q3), .second, .val (.int p4), .val (.int p5), .val (.int p6), .val (.int (p1 &&& (3 : Int32))), .val (.ref b_1), .val (.int (5 : Int32)), .val (.ref b_247), .unset, .unset, .unset, .unset, .unset] []))
        have V_270 : Arv Z h_269 b_247 k_247 .char (5 : Int32) [(.int e0), (.int e1), (.int e2), (.int e3), (.int e4)] (.int (0 : Int32)) := by have q := V_269; rwa [own_nar he4] at q
        refine own_via (fun _ => XS.iload X_269.here hx rfl (hb hby at_314) rfl) ?_
        show own_Go p e below _ (T_269.setTop (mkF m 316 #[.val (.int p1), .val (.int p2), .val (.long q3), .second, .val (.int p4), .val (.int p5), .val (.int p6), .val (.int (p1 &&& (3 : Int32))), .val (.ref b_1), .val (.int (5 : Int32)), .val (.ref b_247), .unset, .unset, .unset, .unset, .unset] [(.int (5 : Int32))]))
        refine own_via (fun _ => XS.iconst X_269.here hx rfl (hb hby at_316)) ?_
        show own_Go p e below _ (T_269.setTop (mkF m 317 #[.val (.int p1), .val (.int p2), .val (.long q3), .second, .val (.int p4), .val (.int p5), .val (.int p6), .val (.int (p1 &&& (3 : Int32))), .val (.ref b_1), .val (.int (5 : Int32)), .val (.ref b_247), .unset, .unset, .unset, .unset, .unset] [(.int (5 : Int32)), (.int (5 : Int32))]))
        refine own_via (fun _ => XS.icmpYes X_269.here hx rfl (pc0 := 317) (pc' := 328) rfl (hb hby at_317) rfl (flt ((by decide) : ¬ ((5 : Int32) < (5 : Int32)))).2.2.2 (by decide) (by decide)) ?_
        show own_Go p e below _ (T_269.setTop (mkF m 328 #[.val (.int p1), .val (.int p2), .val (.long q3), .second, .val (.int p4), .val (.int p5), .val (.int p6), .val (.int (p1 &&& (3 : Int32))), .val (.ref b_1), .val (.int (5 : Int32)), .val (.ref b_247), .unset, .unset, .unset, .unset, .unset] []))
        refine own_via (fun _ => XS.iload X_269.here hx rfl (hb hby at_328) rfl) ?_
        show own_Go p e below _ (T_269.setTop (mkF m 330 #[.val (.int p1), .val (.int p2), .val (.long q3), .second, .val (.int p4), .val (.int p5), .val (.int p6), .val (.int (p1 &&& (3 : Int32))), .val (.ref b_1), .val (.int (5 : Int32)), .val (.ref b_247), .unset, .unset, .unset, .unset, .unset] [(.int (5 : Int32))]))
        refine own_via (fun _ => XS.bipush X_269.here hx rfl (hb hby at_330)) ?_
        show own_Go p e below _ (T_269.setTop (mkF m 332 #[.val (.int p1), .val (.int p2), .val (.long q3), .second, .val (.int p4), .val (.int p5), .val (.int p6), .val (.int (p1 &&& (3 : Int32))), .val (.ref b_1), .val (.int (5 : Int32)), .val (.ref b_247), .unset, .unset, .unset, .unset, .unset] [(.int (6 : Int32)), (.int (5 : Int32))]))
        refine own_via (fun _ => XS.icmpYes X_269.here hx rfl (pc0 := 332) (pc' := 345) rfl (hb hby at_332) rfl (flt ((by decide) : ¬ ((6 : Int32) < (5 : Int32)))).2.2.2 (by decide) (by decide)) ?_
        show own_Go p e below _ (T_269.setTop (mkF m 345 #[.val (.int p1), .val (.int p2), .val (.long q3), .second, .val (.int p4), .val (.int p5), .val (.int p6), .val (.int (p1 &&& (3 : Int32))), .val (.ref b_1), .val (.int (5 : Int32)), .val (.ref b_247), .unset, .unset, .unset, .unset, .unset] []))
        obtain ⟨T_271, h_271, X_271, e_271, E_271, A_271, D_271, -, st_271⟩ := newO X_269 hx hZ hown (own_w hw 6 rfl) (own_w hw 7 rfl) (own_w hw 8 rfl) e_269 (g := (mkF m 345 #[.val (.int p1), .val (.int p2), .val (.long q3), .second, .val (.int p4), .val (.int p5), .val (.int p6), .val (.int (p1 &&& (3 : Int32))), .val (.ref b_1), .val (.int (5 : Int32)), .val (.ref b_247), .unset, .unset, .unset, .unset, .unset] [])) rfl (hb hby at_345) (by decide) (by decide)
        obtain ⟨b_271, g_271⟩ : ∃ z, z = h_269.size := ⟨_, rfl⟩
        rw [← g_271] at A_271 D_271 st_271
        have F_272 : Fld Z h_271 b_271 "com/example/cascadilla/cascadilla/language/Type" "name" "Ljava/lang/String;" .null := D_271 (Or.inr (own_w hw 43 rfl)) (ty := (.object "java/lang/String")) (by decide)
        have F_273 : Fld Z h_271 b_271 "com/example/cascadilla/cascadilla/language/Type" "label" "Lcom/example/cascadilla/cascadilla/language/Label;" .null := D_271 (Or.inr (own_w hw 45 rfl)) (ty := (.object "com/example/cascadilla/cascadilla/language/Label")) (by decide)
        have F_274 : Fld Z h_271 b_271 "com/example/cascadilla/cascadilla/language/Type" "line" "I" (.int (0 : Int32)) := D_271 (Or.inr (own_w hw 47 rfl)) (ty := .int) (by decide)
        refine own_via st_271 ?_
        show own_Go p e below _ (T_271.setTop (mkF m 348 #[.val (.int p1), .val (.int p2), .val (.long q3), .second, .val (.int p4), .val (.int p5), .val (.int p6), .val (.int (p1 &&& (3 : Int32))), .val (.ref b_1), .val (.int (5 : Int32)), .val (.ref b_247), .unset, .unset, .unset, .unset, .unset] [(.ref b_271)]))
        refine own_via (fun _ => XS.dup X_271.here hx rfl (hb hby at_348) rfl rfl) ?_
        show own_Go p e below _ (T_271.setTop (mkF m 349 #[.val (.int p1), .val (.int p2), .val (.long q3), .second, .val (.int p4), .val (.int p5), .val (.int p6), .val (.int (p1 &&& (3 : Int32))), .val (.ref b_1), .val (.int (5 : Int32)), .val (.ref b_247), .unset, .unset, .unset, .unset, .unset] [(.ref b_271), (.ref b_271)]))
        obtain ⟨T_275, h_275, X_275, e_275, E_275, A_275, D_275, -, st_275⟩ := newO X_271 hx hZ hown (own_w hw 9 rfl) (own_w hw 10 rfl) (own_w hw 11 rfl) e_271 (g := (mkF m 349 #[.val (.int p1), .val (.int p2), .val (.long q3), .second, .val (.int p4), .val (.int p5), .val (.int p6), .val (.int (p1 &&& (3 : Int32))), .val (.ref b_1), .val (.int (5 : Int32)), .val (.ref b_247), .unset, .unset, .unset, .unset, .unset] [(.ref b_271), (.ref b_271)])) rfl (hb hby at_349) (by decide) (by decide)
        obtain ⟨b_275, g_275⟩ : ∃ z, z = h_271.size := ⟨_, rfl⟩
        rw [← g_275] at A_275 D_275 st_275
        have F_276 : Fld Z h_275 b_275 "java/lang/String" "coder" "B" (.int (0 : Int32)) := D_275 (Or.inr (own_w hw 35 rfl)) (ty := .byte) (by decide)
        have F_277 : Fld Z h_275 b_275 "java/lang/String" "value" "[B" .null := D_275 (Or.inr (own_w hw 37 rfl)) (ty := (.array .byte)) (by decide)
        refine own_via st_275 ?_
        show own_Go p e below _ (T_275.setTop (mkF m 352 #[.val (.int p1), .val (.int p2), .val (.long q3), .second, .val (.int p4), .val (.int p5), .val (.int p6), .val (.int (p1 &&& (3 : Int32))), .val (.ref b_1), .val (.int (5 : Int32)), .val (.ref b_247), .unset, .unset, .unset, .unset, .unset] [(.ref b_275), (.ref b_271), (.ref b_271)]))
        refine own_via (fun _ => XS.dup X_275.here hx rfl (hb hby at_352) rfl rfl) ?_
        show own_Go p e below _ (T_275.setTop (mkF m 353 #[.val (.int p1), .val (.int p2), .val (.long q3), .second, .val (.int p4), .val (.int p5), .val (.int p6), .val (.int (p1 &&& (3 : Int32))), .val (.ref b_1), .val (.int (5 : Int32)), .val (.ref b_247), .unset, .unset, .unset, .unset, .unset] [(.ref b_275), (.ref b_275), (.ref b_271), (.ref b_271)]))
        refine own_via (fun _ => XS.aload X_275.here hx rfl (hb hby at_353) rfl rfl) ?_
        show own_Go p e below _ (T_275.setTop (mkF m 355 #[.val (.int p1), .val (.int p2), .val (.long q3), .second, .val (.int p4), .val (.int p5), .val (.int p6), .val (.int (p1 &&& (3 : Int32))), .val (.ref b_1), .val (.int (5 : Int32)), .val (.ref b_247), .unset, .unset, .unset, .unset, .unset] [(.ref b_247), (.ref b_275), (.ref b_275), (.ref b_271), (.ref b_271)]))
        have hp : ∀ c ∈ ([e0, e1, e2, e3, e4] : List Int32), ¬ c < 0 ∧ ¬ (255 : Int32) < c := by intro c hc; simp only [List.mem_cons, List.not_mem_nil, or_false] at hc; rcases hc with rfl | rfl | rfl | rfl | rfl <;> assumption
        have K_278 : Keep h_269 h_271 [] := (Keep.refl h_269 []).ext E_271
        have K_279 : Keep h_269 h_275 [] := K_278.ext E_275
        have K_280 : Keep h0 h_247 [] := K_253.ext E_247
        have K_281 : Keep h0 h_250 [] := Keep.wr (ws := []) K_280 W_250 (Or.inr (Nat.le_trans K_253.1 (Nat.le_of_eq g_247.symm)))
        have K_282 : Keep h0 h_257 [] := Keep.wr (ws := []) K_281 W_257 (Or.inr (Nat.le_trans K_253.1 (Nat.le_of_eq g_247.symm)))
        have K_283 : Keep h0 h_261 [] := Keep.wr (ws := []) K_282 W_261 (Or.inr (Nat.le_trans K_253.1 (Nat.le_of_eq g_247.symm)))
        have K_284 : Keep h0 h_265 [] := Keep.wr (ws := []) K_283 W_265 (Or.inr (Nat.le_trans K_253.1 (Nat.le_of_eq g_247.symm)))
        have K_285 : Keep h0 h_269 [] := Keep.wr (ws := []) K_284 W_269 (Or.inr (Nat.le_trans K_253.1 (Nat.le_of_eq g_247.symm)))
        have K_286 : Keep h0 h_271 [] := K_285.ext E_271
        have K_287 : Keep h0 h_275 [] := K_286.ext E_275
        obtain ⟨_, _, ⟨T_288, L_288, k_288, n_288⟩, -, X_288, ⟨Lc_288, hQ_288, l_288, y_288, z_288⟩, st_288⟩ := X_275.specialBack hx (y := (⟨"java/lang/String", "<init>", "([C)V"⟩ : MethodName)) rfl hown (mvT hZ (own_w hw 12 rfl)) (mvT hZ (own_w hw 13 rfl)) (mvT hZ (own_w hw 14 rfl)) (by decide) (StrChars.Road.backV (W := 3) hZ (own_hwords hw) (kI := 4) (own_w hw 10 rfl) (cs := ([e0, e1, e2, e3, e4] : List Int32)) (bs := ([e0, e1, e2, e3, e4] : List Int32).map (fun c => c.toInt8.toInt32)) (n := 5) (Nat.le_trans Z0 (Nat.le_trans K_286.1 (Nat.le_of_eq g_275.symm))) (Nat.le_trans Z0 K_287.1) A_275 F_277 F_276 (V_270.keep K_279 nin0) (Scs.ext (O0.keep K_287 all0).2) hcs rfl rfl (by decide) (by decide) hp rfl (by decide) (by decide)) (g := (mkF m 355 #[.val (.int p1), .val (.int p2), .val (.long q3), .second, .val (.int p4), .val (.int p5), .val (.int p6), .val (.int (p1 &&& (3 : Int32))), .val (.ref b_1), .val (.int (5 : Int32)), .val (.ref b_247), .unset, .unset, .unset, .unset, .unset] [(.ref b_247), (.ref b_275), (.ref b_275), (.ref b_271), (.ref b_271)])) rfl (by rw [hml]; rfl) (Steps.refl _) (a := b_275) (argsL := [(.ref b_247)]) (rest := [(.ref b_275), (.ref b_271), (.ref b_271)]) (lenOf pd_6 rfl) rfl (by show 2 * 0 + _ ≤ _; exact Nat.le_of_eq rfl) (hb hby at_355) (fun _ _ => ⟨rfl, e_275, (by decide : 4 + 1 ≤ _), (by decide : 19 + 5 ≤ _)⟩)
        dsimp only [Pt.U, Pt.locs, Pt.cells, Pt.slots] at X_288 l_288 y_288 z_288 st_288 hQ_288
        subst l_288 y_288 z_288
        obtain ⟨rfl, Nq_288, K_288q, EX_288, FC_288, t_288, kb_288, -, ft_288, -, FV_288, FA_288⟩ := hQ_288
        have N_288 := Fr.app N_269 Nq_288
        refine own_via (fun _ k => st_288.trans k) ?_
        show own_Go p e below _ (T_288.setTop (mkF m 358 #[.val (.int p1), .val (.int p2), .val (.long q3), .second, .val (.int p4), .val (.int p5), .val (.int p6), .val (.int (p1 &&& (3 : Int32))), .val (.ref b_1), .val (.int (5 : Int32)), .val (.ref b_247), .unset, .unset, .unset, .unset, .unset] [(.ref b_275), (.ref b_271), (.ref b_271)]))
        have SS : own_Str Z T_288.heap b_275 [e0, e1, e2, e3, e4] := ⟨EX_288, FC_288, ⟨t_288, kb_288, FV_288, FA_288⟩, hp, by simp⟩
        refine own_via (fun _ => XS.aconstNull X_288.here hx rfl (hb hby at_358)) ?_
        show own_Go p e below _ (T_288.setTop (mkF m 359 #[.val (.int p1), .val (.int p2), .val (.long q3), .second, .val (.int p4), .val (.int p5), .val (.int p6), .val (.int (p1 &&& (3 : Int32))), .val (.ref b_1), .val (.int (5 : Int32)), .val (.ref b_247), .unset, .unset, .unset, .unset, .unset] [.null, (.ref b_275), (.ref b_271), (.ref b_271)]))
        refine own_via (fun _ => XS.iload X_288.here hx rfl (hb hby at_359) rfl) ?_
        show own_Go p e below _ (T_288.setTop (mkF m 361 #[.val (.int p1), .val (.int p2), .val (.long q3), .second, .val (.int p4), .val (.int p5), .val (.int p6), .val (.int (p1 &&& (3 : Int32))), .val (.ref b_1), .val (.int (5 : Int32)), .val (.ref b_247), .unset, .unset, .unset, .unset, .unset] [(.int p6), .null, (.ref b_275), (.ref b_271), (.ref b_271)]))
        have K_289 : Keep h_271 h_275 [] := (Keep.refl h_271 []).ext E_275
        have K_290 : Keep h_271 T_288.heap [] := Keep.trans (ws := []) K_289 K_288q (allS (Or.inr (Nat.le_of_eq g_275.symm)) all0)
        have K_291 : Keep h0 T_288.heap [] := Keep.trans (ws := []) K_287 K_288q (allS (Or.inr (Nat.le_trans K_286.1 (Nat.le_of_eq g_275.symm))) all0)
        obtain ⟨_, _, ⟨T_292, L_292, k_292, n_292⟩, -, X_292, ⟨Lc_292, hQ_292, l_292, y_292, z_292⟩, st_292⟩ := X_288.specialBack hx (y := (⟨"com/example/cascadilla/cascadilla/language/Type", "<init>", "(Ljava/lang/String;Lcom/example/cascadilla/cascadilla/language/Label;I)V"⟩ : MethodName)) rfl hown (mvT hZ (own_w hw 38 rfl)) (mvT hZ (own_w hw 39 rfl)) (mvT hZ (own_w hw 40 rfl)) (by decide) (backOf (W := 1) (rmtype l Z a0 hw [] b_271 b_275 p6 T_288.heap n0 (Nat.le_trans Z0 K_291.1) (A_271.keep K_290) (F_272.keep K_290 nin0) (F_273.keep K_290 nin0) (F_274.keep K_290 nin0) (Nat.le_trans Z0 (Nat.le_trans K_285.1 (Nat.le_of_eq g_271.symm)))) hZ (own_w hw 40 rfl) (own_w hw 8 rfl) (by decide) (by decide)) (g := (mkF m 361 #[.val (.int p1), .val (.int p2), .val (.long q3), .second, .val (.int p4), .val (.int p5), .val (.int p6), .val (.int (p1 &&& (3 : Int32))), .val (.ref b_1), .val (.int (5 : Int32)), .val (.ref b_247), .unset, .unset, .unset, .unset, .unset] [(.int p6), .null, (.ref b_275), (.ref b_271), (.ref b_271)])) rfl (by rw [hml]; rfl) (Steps.refl _) (a := b_271) (argsL := [(.ref b_275), .null, (.int p6)]) (rest := [(.ref b_271)]) (lenOf pd_7 rfl) rfl (by show 2 * 0 + _ ≤ _; exact Nat.le_of_eq rfl) (hb hby at_361) (fun _ _ => ⟨rfl, rfl, (by decide : 5 + 0 ≤ _), (by decide : 24 + 0 ≤ _)⟩)
        dsimp only [Pt.U, Pt.locs, Pt.cells, Pt.slots] at X_292 l_292 y_292 z_292 st_292 hQ_292
        subst l_292 y_292 z_292
        obtain ⟨rfl, Nq_292, K_292q, q_292_0⟩ := hQ_292
        have N_292 := Fr.app N_288 Nq_292
        refine own_via (fun _ k => st_292.trans k) ?_
        show own_Go p e below _ (T_292.setTop (mkF m 364 #[.val (.int p1), .val (.int p2), .val (.long q3), .second, .val (.int p4), .val (.int p5), .val (.int p6), .val (.int (p1 &&& (3 : Int32))), .val (.ref b_1), .val (.int (5 : Int32)), .val (.ref b_247), .unset, .unset, .unset, .unset, .unset] [(.ref b_271)]))
        refine own_via (fun _ => XS.astore X_292.here hx rfl (hb hby at_364) rfl rfl (l' := #[.val (.int p1), .val (.int p2), .val (.long q3), .second, .val (.int p4), .val (.int p5), .val (.int p6), .val (.int (p1 &&& (3 : Int32))), .val (.ref b_1), .val (.int (5 : Int32)), .val (.ref b_247), .val (.ref b_271), .unset, .unset, .unset, .unset]) rfl) ?_
        show own_Go p e below _ (T_292.setTop (mkF m 366 #[.val (.int p1), .val (.int p2), .val (.long q3), .second, .val (.int p4), .val (.int p5), .val (.int p6), .val (.int (p1 &&& (3 : Int32))), .val (.ref b_1), .val (.int (5 : Int32)), .val (.ref b_247), .val (.ref b_271), .unset, .unset, .unset, .unset] []))
        refine own_via (fun _ => XS.aload X_292.here hx rfl (hb hby at_366) rfl rfl) ?_
        show own_Go p e below _ (T_292.setTop (mkF m 368 #[.val (.int p1), .val (.int p2), .val (.long q3), .second, .val (.int p4), .val (.int p5), .val (.int p6), .val (.int (p1 &&& (3 : Int32))), .val (.ref b_1), .val (.int (5 : Int32)), .val (.ref b_247), .val (.ref b_271), .unset, .unset, .unset, .unset] [(.ref b_271)]))
        have K_293 : Keep T_288.heap T_292.heap [b_271] := Keep.trans (ws := [b_271]) (own_keep_mono (Keep.refl T_288.heap []) (by simp)) K_292q (allS (Or.inl (List.mem_of_getElem? (i := 0) rfl)) all0)
        have K_294 : Keep h0 T_292.heap [] := Keep.trans (ws := []) K_291 K_292q (allS (Or.inr (Nat.le_trans K_285.1 (Nat.le_of_eq g_271.symm))) all0)
        have K_296 : Keep h_271 T_292.heap [b_271] := Keep.trans (ws := [b_271]) (own_keep_mono K_290 (by simp)) K_292q (allS (Or.inl (List.mem_of_getElem? (i := 0) rfl)) all0)
        obtain ⟨cq_295, kq_295, q_295a, q_295b, q_295c⟩ := isOf hZ rfl (A_271.keep K_296)
        obtain ⟨_, _, ⟨T_295, L_295, k_295, n_295⟩, -, Xc_295, hSc_295, hgc_295, ⟨Lc_295, hQ_295, l_295, y_295, z_295⟩, st_295⟩ := X_292.virtualBackS hx (y := (⟨"com/example/cascadilla/cascadilla/language/Type", "isClass", "()Z"⟩ : MethodName)) (z := (⟨"com/example/cascadilla/cascadilla/language/Type", "isClass", "()Z"⟩ : MethodName)) hown (mvT hZ (own_w hw 48 rfl)) (mvT hZ (own_w hw 49 rfl)) (notFace_of_selects (args := #[]) (mvT hZ (own_w hw 51 rfl))) (mvT hZ (own_w hw 51 rfl)) (mvT hZ (own_w hw 50 rfl)) (by decide) (own_backS (J := fun vm_ => CHv Z consts_1 vm_ T_292.heap) (W := 0) (rmisClass l Z a0 hw [] b_271 b_275 [e0, e1, e2, e3, e4] cs T_292.heap n0 (Nat.le_trans Z0 K_294.1) (O0.keep K_294 all0) Scs hcs q_292_0 (SS.keepO K_293 (own_offS (A_271.keep K_290) (by decide) (own_w hw 7 rfl) own_off0))) hZ (own_w hw 52 rfl) (own_w hw 8 rfl) (by decide) (by decide)) q_295a q_295c (g := (mkF m 368 #[.val (.int p1), .val (.int p2), .val (.long q3), .second, .val (.int p4), .val (.int p5), .val (.int p6), .val (.int (p1 &&& (3 : Int32))), .val (.ref b_1), .val (.int (5 : Int32)), .val (.ref b_247), .val (.ref b_271), .unset, .unset, .unset, .unset] [(.ref b_271)])) rfl (by rw [hml]; rfl) (Steps.refl _) (argsL := []) (rest := []) (lenOf pd_8 rfl) rfl (by show 2 * 0 + _ ≤ _; exact Nat.le_of_eq rfl) (hb hby at_368) (fun _ hW1 => ⟨rfl, rfl, (own_CHstay (J0.keep K_294 all0) hZ (own_EW hw) hW1), (by decide : 5 + 4 ≤ _), (by decide : 24 + 48 ≤ _)⟩)
        dsimp only [Pt.U, Pt.locs, Pt.cells, Pt.slots] at Xc_295 hSc_295 hgc_295 l_295 y_295 z_295 st_295 hQ_295
        subst l_295 y_295 z_295
        obtain ⟨X_295, hS_295, hZ_295, ho_295⟩ := rebS hS0 (Nat.le_trans (Nat.zero_le _) K_294.1) Xc_295 hSc_295 hgc_295 hZ hown
        obtain ⟨i_297, rfl, Nq_295, K_295q, q_295_0, J_295⟩ := hQ_295
        have N_295 := Fr.app N_292 Nq_295
        refine own_via (fun _ k => st_295.trans k) ?_
        show own_Go p e below _ (T_295.setTop (mkF m 371 #[.val (.int p1), .val (.int p2), .val (.long q3), .second, .val (.int p4), .val (.int p5), .val (.int p6), .val (.int (p1 &&& (3 : Int32))), .val (.ref b_1), .val (.int (5 : Int32)), .val (.ref b_247), .val (.ref b_271), .unset, .unset, .unset, .unset] [(.int i_297)]))
        refine own_via (fun _ => XS.istore X_295.here hx rfl (hb hby at_371) rfl (l' := #[.val (.int p1), .val (.int p2), .val (.long q3), .second, .val (.int p4), .val (.int p5), .val (.int p6), .val (.int (p1 &&& (3 : Int32))), .val (.ref b_1), .val (.int (5 : Int32)), .val (.ref b_247), .val (.ref b_271), .val (.int i_297), .unset, .unset, .unset]) rfl) ?_
        show own_Go p e below _ (T_295.setTop (mkF m 373 #[.val (.int p1), .val (.int p2), .val (.long q3), .second, .val (.int p4), .val (.int p5), .val (.int p6), .val (.int (p1 &&& (3 : Int32))), .val (.ref b_1), .val (.int (5 : Int32)), .val (.ref b_247), .val (.ref b_271), .val (.int i_297), .unset, .unset, .unset] []))
        refine own_via (fun _ => XS.iload X_295.here hx rfl (hb hby at_373) rfl) ?_
        show own_Go p e below _ (T_295.setTop (mkF m 375 #[.val (.int p1), .val (.int p2), .val (.long q3), .second, .val (.int p4), .val (.int p5), .val (.int p6), .val (.int (p1 &&& (3 : Int32))), .val (.ref b_1), .val (.int (5 : Int32)), .val (.ref b_247), .val (.ref b_271), .val (.int i_297), .unset, .unset, .unset] [(.int (5 : Int32))]))
        refine own_via (fun _ => XS.iconst X_295.here hx rfl (hb hby at_375)) ?_
        show own_Go p e below _ (T_295.setTop (mkF m 376 #[.val (.int p1), .val (.int p2), .val (.long q3), .second, .val (.int p4), .val (.int p5), .val (.int p6), .val (.int (p1 &&& (3 : Int32))), .val (.ref b_1), .val (.int (5 : Int32)), .val (.ref b_247), .val (.ref b_271), .val (.int i_297), .unset, .unset, .unset] [(.int (3 : Int32)), (.int (5 : Int32))]))
        obtain ⟨z13, ez13⟩ : ∃ z : Int32, z = (0 : Int32) := ⟨_, rfl⟩
        refine own_seq (B := T_295.setTop (mkF m 411 #[.val (.int p1), .val (.int p2), .val (.long q3), .second, .val (.int p4), .val (.int p5), .val (.int p6), .val (.int (p1 &&& (3 : Int32))), .val (.ref b_1), .val (.int (5 : Int32)), .val (.ref b_247), .val (.ref b_271), .val (.int i_297), .unset, .unset, .unset] [(.int z13)])) (fun kz => ?_) ?_
        · refine own_via (fun _ => XS.icmpYes X_295.here hx rfl (pc0 := 376) (pc' := 410) rfl (hb hby at_376) rfl (feq ((by decide) : ¬ ((5 : Int32) = (3 : Int32)))).2 (by decide) (by decide)) ?_
          show own_Go p e below _ (T_295.setTop (mkF m 410 #[.val (.int p1), .val (.int p2), .val (.long q3), .second, .val (.int p4), .val (.int p5), .val (.int p6), .val (.int (p1 &&& (3 : Int32))), .val (.ref b_1), .val (.int (5 : Int32)), .val (.ref b_247), .val (.ref b_271), .val (.int i_297), .unset, .unset, .unset] []))
          refine own_via (fun _ => XS.iconst X_295.here hx rfl (hb hby at_410)) ?_
          show own_Go p e below _ (T_295.setTop (mkF m 411 #[.val (.int p1), .val (.int p2), .val (.long q3), .second, .val (.int p4), .val (.int p5), .val (.int p6), .val (.int (p1 &&& (3 : Int32))), .val (.ref b_1), .val (.int (5 : Int32)), .val (.ref b_247), .val (.ref b_271), .val (.int i_297), .unset, .unset, .unset] [(.int (0 : Int32))]))
          subst ez13
          exact kz
        show own_Go p e below _ (T_295.setTop (mkF m 411 #[.val (.int p1), .val (.int p2), .val (.long q3), .second, .val (.int p4), .val (.int p5), .val (.int p6), .val (.int (p1 &&& (3 : Int32))), .val (.ref b_1), .val (.int (5 : Int32)), .val (.ref b_247), .val (.ref b_271), .val (.int i_297), .unset, .unset, .unset] [(.int z13)]))
        refine own_via (fun _ => XS.istore X_295.here hx rfl (hb hby at_411) rfl (l' := #[.val (.int p1), .val (.int p2), .val (.long q3), .second, .val (.int p4), .val (.int p5), .val (.int p6), .val (.int (p1 &&& (3 : Int32))), .val (.ref b_1), .val (.int (5 : Int32)), .val (.ref b_247), .val (.ref b_271), .val (.int i_297), .val (.int z13), .unset, .unset]) rfl) ?_
        show own_Go p e below _ (T_295.setTop (mkF m 413 #[.val (.int p1), .val (.int p2), .val (.long q3), .second, .val (.int p4), .val (.int p5), .val (.int p6), .val (.int (p1 &&& (3 : Int32))), .val (.ref b_1), .val (.int (5 : Int32)), .val (.ref b_247), .val (.ref b_271), .val (.int i_297), .val (.int z13), .unset, .unset] []))
        refine own_via (fun _ => XS.iload X_295.here hx rfl (hb hby at_413) rfl) ?_
        show own_Go p e below _ (T_295.setTop (mkF m 415 #[.val (.int p1), .val (.int p2), .val (.long q3), .second, .val (.int p4), .val (.int p5), .val (.int p6), .val (.int (p1 &&& (3 : Int32))), .val (.ref b_1), .val (.int (5 : Int32)), .val (.ref b_247), .val (.ref b_271), .val (.int i_297), .val (.int z13), .unset, .unset] [(.int (5 : Int32))]))
        refine own_via (fun _ => XS.bipush X_295.here hx rfl (hb hby at_415)) ?_
        show own_Go p e below _ (T_295.setTop (mkF m 417 #[.val (.int p1), .val (.int p2), .val (.long q3), .second, .val (.int p4), .val (.int p5), .val (.int p6), .val (.int (p1 &&& (3 : Int32))), .val (.ref b_1), .val (.int (5 : Int32)), .val (.ref b_247), .val (.ref b_271), .val (.int i_297), .val (.int z13), .unset, .unset] [(.int (7 : Int32)), (.int (5 : Int32))]))
        obtain ⟨z14, ez14⟩ : ∃ z : Int32, z = (0 : Int32) := ⟨_, rfl⟩
        refine own_seq (B := T_295.setTop (mkF m 489 #[.val (.int p1), .val (.int p2), .val (.long q3), .second, .val (.int p4), .val (.int p5), .val (.int p6), .val (.int (p1 &&& (3 : Int32))), .val (.ref b_1), .val (.int (5 : Int32)), .val (.ref b_247), .val (.ref b_271), .val (.int i_297), .val (.int z13), .unset, .unset] [(.int z14)])) (fun kz => ?_) ?_
        · refine own_via (fun _ => XS.icmpYes X_295.here hx rfl (pc0 := 417) (pc' := 488) rfl (hb hby at_417) rfl (feq ((by decide) : ¬ ((5 : Int32) = (7 : Int32)))).2 (by decide) (by decide)) ?_
          show own_Go p e below _ (T_295.setTop (mkF m 488 #[.val (.int p1), .val (.int p2), .val (.long q3), .second, .val (.int p4), .val (.int p5), .val (.int p6), .val (.int (p1 &&& (3 : Int32))), .val (.ref b_1), .val (.int (5 : Int32)), .val (.ref b_247), .val (.ref b_271), .val (.int i_297), .val (.int z13), .unset, .unset] []))
          refine own_via (fun _ => XS.iconst X_295.here hx rfl (hb hby at_488)) ?_
          show own_Go p e below _ (T_295.setTop (mkF m 489 #[.val (.int p1), .val (.int p2), .val (.long q3), .second, .val (.int p4), .val (.int p5), .val (.int p6), .val (.int (p1 &&& (3 : Int32))), .val (.ref b_1), .val (.int (5 : Int32)), .val (.ref b_247), .val (.ref b_271), .val (.int i_297), .val (.int z13), .unset, .unset] [(.int (0 : Int32))]))
          subst ez14
          exact kz
        show own_Go p e below _ (T_295.setTop (mkF m 489 #[.val (.int p1), .val (.int p2), .val (.long q3), .second, .val (.int p4), .val (.int p5), .val (.int p6), .val (.int (p1 &&& (3 : Int32))), .val (.ref b_1), .val (.int (5 : Int32)), .val (.ref b_247), .val (.ref b_271), .val (.int i_297), .val (.int z13), .unset, .unset] [(.int z14)]))
        refine own_via (fun _ => XS.istore X_295.here hx rfl (hb hby at_489) rfl (l' := #[.val (.int p1), .val (.int p2), .val (.long q3), .second, .val (.int p4), .val (.int p5), .val (.int p6), .val (.int (p1 &&& (3 : Int32))), .val (.ref b_1), .val (.int (5 : Int32)), .val (.ref b_247), .val (.ref b_271), .val (.int i_297), .val (.int z13), .val (.int z14), .unset]) rfl) ?_
        show own_Go p e below _ (T_295.setTop (mkF m 491 #[.val (.int p1), .val (.int p2), .val (.long q3), .second, .val (.int p4), .val (.int p5), .val (.int p6), .val (.int (p1 &&& (3 : Int32))), .val (.ref b_1), .val (.int (5 : Int32)), .val (.ref b_247), .val (.ref b_271), .val (.int i_297), .val (.int z13), .val (.int z14), .unset] []))
        refine own_via (fun _ => XS.iload X_295.here hx rfl (hb hby at_491) rfl) ?_
        show own_Go p e below _ (T_295.setTop (mkF m 493 #[.val (.int p1), .val (.int p2), .val (.long q3), .second, .val (.int p4), .val (.int p5), .val (.int p6), .val (.int (p1 &&& (3 : Int32))), .val (.ref b_1), .val (.int (5 : Int32)), .val (.ref b_247), .val (.ref b_271), .val (.int i_297), .val (.int z13), .val (.int z14), .unset] [(.int z13)]))
        obtain ⟨z15, ez15⟩ : ∃ z : Int32, z = (if z13 = (0 : Int32) then (if z14 = (0 : Int32) then (1 : Int32) else (0 : Int32)) else (0 : Int32)) := ⟨_, rfl⟩
        refine own_seq (B := T_295.setTop (mkF m 506 #[.val (.int p1), .val (.int p2), .val (.long q3), .second, .val (.int p4), .val (.int p5), .val (.int p6), .val (.int (p1 &&& (3 : Int32))), .val (.ref b_1), .val (.int (5 : Int32)), .val (.ref b_247), .val (.ref b_271), .val (.int i_297), .val (.int z13), .val (.int z14), .unset] [(.int z15)])) (fun kz => ?_) ?_
        · by_cases hv_298 : z13 = (0 : Int32)
          · refine own_via (fun _ => XS.ifNo X_295.here hx rfl (hb hby at_493) rfl ((if0 _ _).trans (teq (hv_298 : z13 = (0 : Int32))).2)) ?_
            show own_Go p e below _ (T_295.setTop (mkF m 496 #[.val (.int p1), .val (.int p2), .val (.long q3), .second, .val (.int p4), .val (.int p5), .val (.int p6), .val (.int (p1 &&& (3 : Int32))), .val (.ref b_1), .val (.int (5 : Int32)), .val (.ref b_247), .val (.ref b_271), .val (.int i_297), .val (.int z13), .val (.int z14), .unset] []))
            refine own_via (fun _ => XS.iload X_295.here hx rfl (hb hby at_496) rfl) ?_
            show own_Go p e below _ (T_295.setTop (mkF m 498 #[.val (.int p1), .val (.int p2), .val (.long q3), .second, .val (.int p4), .val (.int p5), .val (.int p6), .val (.int (p1 &&& (3 : Int32))), .val (.ref b_1), .val (.int (5 : Int32)), .val (.ref b_247), .val (.ref b_271), .val (.int i_297), .val (.int z13), .val (.int z14), .unset] [(.int z14)]))
            by_cases hv_299 : z14 = (0 : Int32)
            · refine own_via (fun _ => XS.ifNo X_295.here hx rfl (hb hby at_498) rfl ((if0 _ _).trans (teq (hv_299 : z14 = (0 : Int32))).2)) ?_
              show own_Go p e below _ (T_295.setTop (mkF m 501 #[.val (.int p1), .val (.int p2), .val (.long q3), .second, .val (.int p4), .val (.int p5), .val (.int p6), .val (.int (p1 &&& (3 : Int32))), .val (.ref b_1), .val (.int (5 : Int32)), .val (.ref b_247), .val (.ref b_271), .val (.int i_297), .val (.int z13), .val (.int z14), .unset] []))
              refine own_via (fun _ => XS.iconst X_295.here hx rfl (hb hby at_501)) ?_
              show own_Go p e below _ (T_295.setTop (mkF m 502 #[.val (.int p1), .val (.int p2), .val (.long q3), .second, .val (.int p4), .val (.int p5), .val (.int p6), .val (.int (p1 &&& (3 : Int32))), .val (.ref b_1), .val (.int (5 : Int32)), .val (.ref b_247), .val (.ref b_271), .val (.int i_297), .val (.int z13), .val (.int z14), .unset] [(.int (1 : Int32))]))
              refine own_via (fun _ => XS.goto X_295.here hx rfl (pc0 := 502) (pc' := 506) rfl (hb hby at_502) (by decide) (by decide)) ?_
              show own_Go p e below _ (T_295.setTop (mkF m 506 #[.val (.int p1), .val (.int p2), .val (.long q3), .second, .val (.int p4), .val (.int p5), .val (.int p6), .val (.int (p1 &&& (3 : Int32))), .val (.ref b_1), .val (.int (5 : Int32)), .val (.ref b_247), .val (.ref b_271), .val (.int i_297), .val (.int z13), .val (.int z14), .unset] [(.int (1 : Int32))]))
              rw [if_pos hv_298] at ez15
              rw [if_pos hv_299] at ez15
              subst ez15
              exact kz
            · refine own_via (fun _ => XS.ifYes X_295.here hx rfl (pc0 := 498) (pc' := 505) rfl (hb hby at_498) rfl ((if0 _ _).trans (feq (hv_299 : ¬ (z14 = (0 : Int32)))).2) (by decide) (by decide)) ?_
              show own_Go p e below _ (T_295.setTop (mkF m 505 #[.val (.int p1), .val (.int p2), .val (.long q3), .second, .val (.int p4), .val (.int p5), .val (.int p6), .val (.int (p1 &&& (3 : Int32))), .val (.ref b_1), .val (.int (5 : Int32)), .val (.ref b_247), .val (.ref b_271), .val (.int i_297), .val (.int z13), .val (.int z14), .unset] []))
              refine own_via (fun _ => XS.iconst X_295.here hx rfl (hb hby at_505)) ?_
              show own_Go p e below _ (T_295.setTop (mkF m 506 #[.val (.int p1), .val (.int p2), .val (.long q3), .second, .val (.int p4), .val (.int p5), .val (.int p6), .val (.int (p1 &&& (3 : Int32))), .val (.ref b_1), .val (.int (5 : Int32)), .val (.ref b_247), .val (.ref b_271), .val (.int i_297), .val (.int z13), .val (.int z14), .unset] [(.int (0 : Int32))]))
              rw [if_pos hv_298] at ez15
              rw [if_neg hv_299] at ez15
              subst ez15
              exact kz
          · refine own_via (fun _ => XS.ifYes X_295.here hx rfl (pc0 := 493) (pc' := 505) rfl (hb hby at_493) rfl ((if0 _ _).trans (feq (hv_298 : ¬ (z13 = (0 : Int32)))).2) (by decide) (by decide)) ?_
            show own_Go p e below _ (T_295.setTop (mkF m 505 #[.val (.int p1), .val (.int p2), .val (.long q3), .second, .val (.int p4), .val (.int p5), .val (.int p6), .val (.int (p1 &&& (3 : Int32))), .val (.ref b_1), .val (.int (5 : Int32)), .val (.ref b_247), .val (.ref b_271), .val (.int i_297), .val (.int z13), .val (.int z14), .unset] []))
            refine own_via (fun _ => XS.iconst X_295.here hx rfl (hb hby at_505)) ?_
            show own_Go p e below _ (T_295.setTop (mkF m 506 #[.val (.int p1), .val (.int p2), .val (.long q3), .second, .val (.int p4), .val (.int p5), .val (.int p6), .val (.int (p1 &&& (3 : Int32))), .val (.ref b_1), .val (.int (5 : Int32)), .val (.ref b_247), .val (.ref b_271), .val (.int i_297), .val (.int z13), .val (.int z14), .unset] [(.int (0 : Int32))]))
            rw [if_neg hv_298] at ez15
            subst ez15
            exact kz
        show own_Go p e below _ (T_295.setTop (mkF m 506 #[.val (.int p1), .val (.int p2), .val (.long q3), .second, .val (.int p4), .val (.int p5), .val (.int p6), .val (.int (p1 &&& (3 : Int32))), .val (.ref b_1), .val (.int (5 : Int32)), .val (.ref b_247), .val (.ref b_271), .val (.int i_297), .val (.int z13), .val (.int z14), .unset] [(.int z15)]))
        refine own_via (fun _ => XS.istore X_295.here hx rfl (hb hby at_506) rfl (l' := #[.val (.int p1), .val (.int p2), .val (.long q3), .second, .val (.int p4), .val (.int p5), .val (.int p6), .val (.int (p1 &&& (3 : Int32))), .val (.ref b_1), .val (.int (5 : Int32)), .val (.ref b_247), .val (.ref b_271), .val (.int i_297), .val (.int z13), .val (.int z14), .val (.int z15)]) rfl) ?_
        show own_Go p e below _ (T_295.setTop (mkF m 508 #[.val (.int p1), .val (.int p2), .val (.long q3), .second, .val (.int p4), .val (.int p5), .val (.int p6), .val (.int (p1 &&& (3 : Int32))), .val (.ref b_1), .val (.int (5 : Int32)), .val (.ref b_247), .val (.ref b_271), .val (.int i_297), .val (.int z13), .val (.int z14), .val (.int z15)] []))
        refine own_via (fun _ => XS.iload X_295.here hx rfl (hb hby at_508) rfl) ?_
        show own_Go p e below _ (T_295.setTop (mkF m 510 #[.val (.int p1), .val (.int p2), .val (.long q3), .second, .val (.int p4), .val (.int p5), .val (.int p6), .val (.int (p1 &&& (3 : Int32))), .val (.ref b_1), .val (.int (5 : Int32)), .val (.ref b_247), .val (.ref b_271), .val (.int i_297), .val (.int z13), .val (.int z14), .val (.int z15)] [(.int i_297)]))
        refine own_via (fun _ => XS.iload X_295.here hx rfl (hb hby at_510) rfl) ?_
        show own_Go p e below _ (T_295.setTop (mkF m 512 #[.val (.int p1), .val (.int p2), .val (.long q3), .second, .val (.int p4), .val (.int p5), .val (.int p6), .val (.int (p1 &&& (3 : Int32))), .val (.ref b_1), .val (.int (5 : Int32)), .val (.ref b_247), .val (.ref b_271), .val (.int i_297), .val (.int z13), .val (.int z14), .val (.int z15)] [(.int z15), (.int i_297)]))
        refine own_via (fun _ => XS.icmpNo X_295.here hx rfl (hb hby at_512) rfl (teq (own_fin q_295_0 (own_no (by simp) ez13) (own_no (by simp) ez14) ez15 : i_297 = z15)).2) ?_
        show own_Go p e below _ (T_295.setTop (mkF m 515 #[.val (.int p1), .val (.int p2), .val (.long q3), .second, .val (.int p4), .val (.int p5), .val (.int p6), .val (.int (p1 &&& (3 : Int32))), .val (.ref b_1), .val (.int (5 : Int32)), .val (.ref b_247), .val (.ref b_271), .val (.int i_297), .val (.int z13), .val (.int z14), .val (.int z15)] []))
        refine own_via (fun _ => XS.iconst X_295.here hx rfl (hb hby at_515)) ?_
        show own_Go p e below _ (T_295.setTop (mkF m 516 #[.val (.int p1), .val (.int p2), .val (.long q3), .second, .val (.int p4), .val (.int p5), .val (.int p6), .val (.int (p1 &&& (3 : Int32))), .val (.ref b_1), .val (.int (5 : Int32)), .val (.ref b_247), .val (.ref b_271), .val (.int i_297), .val (.int z13), .val (.int z14), .val (.int z15)] [(.int (1 : Int32))]))
        refine own_via (fun _ => XS.goto X_295.here hx rfl (pc0 := 516) (pc' := 520) rfl (hb hby at_516) (by decide) (by decide)) ?_
        show own_Go p e below _ (T_295.setTop (mkF m 520 #[.val (.int p1), .val (.int p2), .val (.long q3), .second, .val (.int p4), .val (.int p5), .val (.int p6), .val (.int (p1 &&& (3 : Int32))), .val (.ref b_1), .val (.int (5 : Int32)), .val (.ref b_247), .val (.ref b_271), .val (.int i_297), .val (.int z13), .val (.int z14), .val (.int z15)] [(.int (1 : Int32))]))
        have K_300 : Keep h0 T_295.heap [] := Keep.trans (ws := []) K_294 K_295q all0
        exact own_retvW X_295 hS_295 (Nat.le_refl _) Bd.notSynchronized hx Bd.returns rfl (Or.inl ⟨rfl, (by simp), _, rfl⟩) (hb hby at_520) (by decide) (by decide) ⟨rfl, N_295, K_300⟩
      · show own_Go p e below _ (T_36.setTop (mkF m 228 #[.val (.int p1), .val (.int p2), .val (.long q3), .second, .val (.int p4), .val (.int p5), .val (.int p6), .val (.int (p1 &&& (3 : Int32))), .val (.ref b_1), .val (.int (6 : Int32)), .unset, .unset, .unset, .unset, .unset, .unset] []))
        refine own_via (fun _ => XS.iload X_39.here hx rfl (hb hby at_228) rfl) ?_
        show own_Go p e below _ (T_36.setTop (mkF m 230 #[.val (.int p1), .val (.int p2), .val (.long q3), .second, .val (.int p4), .val (.int p5), .val (.int p6), .val (.int (p1 &&& (3 : Int32))), .val (.ref b_1), .val (.int (6 : Int32)), .unset, .unset, .unset, .unset, .unset, .unset] [(.int (6 : Int32))]))
        refine own_via (fun _ => XS.bipush X_39.here hx rfl (hb hby at_230)) ?_
        show own_Go p e below _ (T_36.setTop (mkF m 232 #[.val (.int p1), .val (.int p2), .val (.long q3), .second, .val (.int p4), .val (.int p5), .val (.int p6), .val (.int (p1 &&& (3 : Int32))), .val (.ref b_1), .val (.int (6 : Int32)), .unset, .unset, .unset, .unset, .unset, .unset] [(.int (7 : Int32)), (.int (6 : Int32))]))
        refine own_via (fun _ => XS.icmpYes X_39.here hx rfl (pc0 := 232) (pc' := 239) rfl (hb hby at_232) rfl (flt ((by decide) : ¬ ((7 : Int32) < (6 : Int32)))).2.2.2 (by decide) (by decide)) ?_
        show own_Go p e below _ (T_36.setTop (mkF m 239 #[.val (.int p1), .val (.int p2), .val (.long q3), .second, .val (.int p4), .val (.int p5), .val (.int p6), .val (.int (p1 &&& (3 : Int32))), .val (.ref b_1), .val (.int (6 : Int32)), .unset, .unset, .unset, .unset, .unset, .unset] []))
        refine own_via (fun _ => XS.iload X_39.here hx rfl (hb hby at_239) rfl) ?_
        show own_Go p e below _ (T_36.setTop (mkF m 241 #[.val (.int p1), .val (.int p2), .val (.long q3), .second, .val (.int p4), .val (.int p5), .val (.int p6), .val (.int (p1 &&& (3 : Int32))), .val (.ref b_1), .val (.int (6 : Int32)), .unset, .unset, .unset, .unset, .unset, .unset] [(.int (6 : Int32))]))
        obtain ⟨T_301, h_301, k_301, X_301, e_301, E_301, A_301, st_301⟩ := newP X_39 hx hZ (own_w hw 0 rfl) e_39 (g := (mkF m 241 #[.val (.int p1), .val (.int p2), .val (.long q3), .second, .val (.int p4), .val (.int p5), .val (.int p6), .val (.int (p1 &&& (3 : Int32))), .val (.ref b_1), .val (.int (6 : Int32)), .unset, .unset, .unset, .unset, .unset, .unset] [(.int (6 : Int32))])) rfl (hb hby at_241) rfl (by decide) (cap := 6) (by decide) (by decide) (by decide) (by decide)
        obtain ⟨b_301, g_301⟩ : ∃ z, z = h_38.size := ⟨_, rfl⟩
        rw [← g_301] at A_301 st_301
        have V_301 : Arv Z h_301 b_301 k_301 .char (6 : Int32) [(.int (0 : Int32)), (.int (0 : Int32)), (.int (0 : Int32)), (.int (0 : Int32)), (.int (0 : Int32)), (.int (0 : Int32))] (.int (0 : Int32)) := (Arv.new A_301 (by decide)).pad (pad_rep [] (.int (0 : Int32)) 6)
        refine own_via st_301 ?_
        show own_Go p e below _ (T_301.setTop (mkF m 243 #[.val (.int p1), .val (.int p2), .val (.long q3), .second, .val (.int p4), .val (.int p5), .val (.int p6), .val (.int (p1 &&& (3 : Int32))), .val (.ref b_1), .val (.int (6 : Int32)), .unset, .unset, .unset, .unset, .unset, .unset] [(.ref b_301)]))
        refine own_via (fun _ => XS.astore X_301.here hx rfl (hb hby at_243) rfl rfl (l' := #[.val (.int p1), .val (.int p2), .val (.long q3), .second, .val (.int p4), .val (.int p5), .val (.int p6), .val (.int (p1 &&& (3 : Int32))), .val (.ref b_1), .val (.int (6 : Int32)), .val (.ref b_301), .unset, .unset, .unset, .unset, .unset]) rfl) ?_
        show own_Go p e below _ (T_301.setTop (mkF m 245 #[.val (.int p1), .val (.int p2), .val (.long q3), .second, .val (.int p4), .val (.int p5), .val (.int p6), .val (.int (p1 &&& (3 : Int32))), .val (.ref b_1), .val (.int (6 : Int32)), .val (.ref b_301), .unset, .unset, .unset, .unset, .unset] []))
        refine own_via (fun _ => XS.iload X_301.here hx rfl (hb hby at_245) rfl) ?_
        show own_Go p e below _ (T_301.setTop (mkF m 247 #[.val (.int p1), .val (.int p2), .val (.long q3), .second, .val (.int p4), .val (.int p5), .val (.int p6), .val (.int (p1 &&& (3 : Int32))), .val (.ref b_1), .val (.int (6 : Int32)), .val (.ref b_301), .unset, .unset, .unset, .unset, .unset] [(.int (6 : Int32))]))
        refine own_via (fun _ => XS.ifNo X_301.here hx rfl (hb hby at_247) rfl ((if0 _ _).trans (tlt ((by decide) : (0 : Int32) < (6 : Int32))).2.2.2)) ?_
        show own_Go p e below _ (T_301.setTop (mkF m 250 #[.val (.int p1), .val (.int p2), .val (.long q3), .second, .val (.int p4), .val (.int p5), .val (.int p6), .val (.int (p1 &&& (3 : Int32))), .val (.ref b_1), .val (.int (6 : Int32)), .val (.ref b_301), .unset, .unset, .unset, .unset, .unset] []))
        refine own_via (fun _ => XS.aload X_301.here hx rfl (hb hby at_250) rfl rfl) ?_
        show own_Go p e below _ (T_301.setTop (mkF m 252 #[.val (.int p1), .val (.int p2), .val (.long q3), .second, .val (.int p4), .val (.int p5), .val (.int p6), .val (.int (p1 &&& (3 : Int32))), .val (.ref b_1), .val (.int (6 : Int32)), .val (.ref b_301), .unset, .unset, .unset, .unset, .unset] [(.ref b_301)]))
        refine own_via (fun _ => XS.iconst X_301.here hx rfl (hb hby at_252)) ?_
        show own_Go p e below _ (T_301.setTop (mkF m 253 #[.val (.int p1), .val (.int p2), .val (.long q3), .second, .val (.int p4), .val (.int p5), .val (.int p6), .val (.int (p1 &&& (3 : Int32))), .val (.ref b_1), .val (.int (6 : Int32)), .val (.ref b_301), .unset, .unset, .unset, .unset, .unset] [(.int (0 : Int32)), (.ref b_301)]))
        refine own_via (fun _ => XS.aload X_301.here hx rfl (hb hby at_253) rfl rfl) ?_
        show own_Go p e below _ (T_301.setTop (mkF m 255 #[.val (.int p1), .val (.int p2), .val (.long q3), .second, .val (.int p4), .val (.int p5), .val (.int p6), .val (.int (p1 &&& (3 : Int32))), .val (.ref b_1), .val (.int (6 : Int32)), .val (.ref b_301), .unset, .unset, .unset, .unset, .unset] [(.ref b_1), (.int (0 : Int32)), (.ref b_301)]))
        refine own_via (fun _ => XS.iconst X_301.here hx rfl (hb hby at_255)) ?_
        show own_Go p e below _ (T_301.setTop (mkF m 256 #[.val (.int p1), .val (.int p2), .val (.long q3), .second, .val (.int p4), .val (.int p5), .val (.int p6), .val (.int (p1 &&& (3 : Int32))), .val (.ref b_1), .val (.int (6 : Int32)), .val (.ref b_301), .unset, .unset, .unset, .unset, .unset] [(.int (0 : Int32)), (.ref b_1), (.int (0 : Int32)), (.ref b_301)]))
        have K_302 : Keep h_38 h_301 [] := (Keep.refl h_38 []).ext E_301
        obtain ⟨cl_303, Ar_303, q_303, S_303, M_303, H_303, G_303⟩ := (id (VE.keep K_302 nin0))
        have in_303 : ¬ ((0 : Int32) < 0 ∨ cl_303.slots.size ≤ ((0 : Int32)).toNatClampNeg) := inb_of S_303 ⟨by decide, by decide⟩
        refine own_via (X_301.caload hx (j := (0 : Int32)) (v := (.int e0)) (by rw [e_301]; exact Ar_303.1) (State.isArrayOf_alike hZ.alike Ar_303.2.1) Ar_303.2.2 in_303 (Has.at H_303 in_303 rfl) (g := (mkF m 256 #[.val (.int p1), .val (.int p2), .val (.long q3), .second, .val (.int p4), .val (.int p5), .val (.int p6), .val (.int (p1 &&& (3 : Int32))), .val (.ref b_1), .val (.int (6 : Int32)), .val (.ref b_301), .unset, .unset, .unset, .unset, .unset] [(.int (0 : Int32)), (.ref b_1), (.int (0 : Int32)), (.ref b_301)])) rfl rfl (hb hby at_256)) ?_
        show own_Go p e below _ (T_301.setTop (mkF m 257 #[.val (.int p1), .val (.int p2), .val (.long q3), .second, .val (.int p4), .val (.int p5), .val (.int p6), .val (.int (p1 &&& (3 : Int32))), .val (.ref b_1), .val (.int (6 : Int32)), .val (.ref b_301), .unset, .unset, .unset, .unset, .unset] [(.int e0), (.int (0 : Int32)), (.ref b_301)]))
        obtain ⟨cl_304, Ar_304, q_304, S_304, M_304, H_304, G_304⟩ := (id V_301)
        obtain ⟨T_304, h_304, X_304, e_304, W_304, st_304⟩ := stC X_301 hx hZ e_301 Ar_304 (j := (0 : Int32)) (inb_of S_304 ⟨by decide, by decide⟩) (g := (mkF m 257 #[.val (.int p1), .val (.int p2), .val (.long q3), .second, .val (.int p4), .val (.int p5), .val (.int p6), .val (.int (p1 &&& (3 : Int32))), .val (.ref b_1), .val (.int (6 : Int32)), .val (.ref b_301), .unset, .unset, .unset, .unset, .unset] [(.int e0), (.int (0 : Int32)), (.ref b_301)])) rfl rfl (hb hby at_257)
        have V_304 : Arv Z h_304 b_301 k_301 .char (6 : Int32) [(.int (nar .char e0)), (.int (0 : Int32)), (.int (0 : Int32)), (.int (0 : Int32)), (.int (0 : Int32)), (.int (0 : Int32))] (.int (0 : Int32)) := Arv.set Ar_304 q_304 S_304 M_304 H_304 G_304 (fits_nar_char _) W_304 0 rfl (Nat.le_of_ble_eq_true rfl)
        have K_305 : Keep h0 h_28 [] := Keep.wr (ws := []) K_26 W_28 (Or.inr (Nat.le_of_eq g_1.symm))
        have K_306 : Keep h0 h_33 [] := Keep.trans (ws := []) K_305 K_34 (allS (Or.inr (Nat.le_of_eq g_1.symm)) all0)
        have K_307 : Keep h0 h_38 [] := Keep.trans (ws := []) K_306 K_39 (allS (Or.inr (Nat.le_of_eq g_1.symm)) all0)
        have N_304 := Fr.snoc X_304 N_39 (Nat.le_trans Z0 (Nat.le_trans K_307.1 (Nat.le_of_eq g_301.symm)))
        refine own_via st_304 ?_
        show own_Go p e below _ (T_304.setTop (mkF m 258 #[.val (.int p1), .val (.int p2), .val (.long q3), .second, .val (.int p4), .val (.int p5), .val (.int p6), .val (.int (p1 &&& (3 : Int32))), .val (.ref b_1), .val (.int (6 : Int32)), .val (.ref b_301), .unset, .unset, .unset, .unset, .unset] []))
        have V_308 : Arv Z h_304 b_301 k_301 .char (6 : Int32) [(.int e0), (.int (0 : Int32)), (.int (0 : Int32)), (.int (0 : Int32)), (.int (0 : Int32)), (.int (0 : Int32))] (.int (0 : Int32)) := by have q := V_304; rwa [own_nar he0] at q
        refine own_via (fun _ => XS.iload X_304.here hx rfl (hb hby at_258) rfl) ?_
        show own_Go p e below _ (T_304.setTop (mkF m 260 #[.val (.int p1), .val (.int p2), .val (.long q3), .second, .val (.int p4), .val (.int p5), .val (.int p6), .val (.int (p1 &&& (3 : Int32))), .val (.ref b_1), .val (.int (6 : Int32)), .val (.ref b_301), .unset, .unset, .unset, .unset, .unset] [(.int (6 : Int32))]))
        refine own_via (fun _ => XS.iconst X_304.here hx rfl (hb hby at_260)) ?_
        show own_Go p e below _ (T_304.setTop (mkF m 261 #[.val (.int p1), .val (.int p2), .val (.long q3), .second, .val (.int p4), .val (.int p5), .val (.int p6), .val (.int (p1 &&& (3 : Int32))), .val (.ref b_1), .val (.int (6 : Int32)), .val (.ref b_301), .unset, .unset, .unset, .unset, .unset] [(.int (1 : Int32)), (.int (6 : Int32))]))
        refine own_via (fun _ => XS.icmpNo X_304.here hx rfl (hb hby at_261) rfl (tlt ((by decide) : (1 : Int32) < (6 : Int32))).2.2.2) ?_
        show own_Go p e below _ (T_304.setTop (mkF m 264 #[.val (.int p1), .val (.int p2), .val (.long q3), .second, .val (.int p4), .val (.int p5), .val (.int p6), .val (.int (p1 &&& (3 : Int32))), .val (.ref b_1), .val (.int (6 : Int32)), .val (.ref b_301), .unset, .unset, .unset, .unset, .unset] []))
        refine own_via (fun _ => XS.aload X_304.here hx rfl (hb hby at_264) rfl rfl) ?_
        show own_Go p e below _ (T_304.setTop (mkF m 266 #[.val (.int p1), .val (.int p2), .val (.long q3), .second, .val (.int p4), .val (.int p5), .val (.int p6), .val (.int (p1 &&& (3 : Int32))), .val (.ref b_1), .val (.int (6 : Int32)), .val (.ref b_301), .unset, .unset, .unset, .unset, .unset] [(.ref b_301)]))
        refine own_via (fun _ => XS.iconst X_304.here hx rfl (hb hby at_266)) ?_
        show own_Go p e below _ (T_304.setTop (mkF m 267 #[.val (.int p1), .val (.int p2), .val (.long q3), .second, .val (.int p4), .val (.int p5), .val (.int p6), .val (.int (p1 &&& (3 : Int32))), .val (.ref b_1), .val (.int (6 : Int32)), .val (.ref b_301), .unset, .unset, .unset, .unset, .unset] [(.int (1 : Int32)), (.ref b_301)]))
        refine own_via (fun _ => XS.aload X_304.here hx rfl (hb hby at_267) rfl rfl) ?_
        show own_Go p e below _ (T_304.setTop (mkF m 269 #[.val (.int p1), .val (.int p2), .val (.long q3), .second, .val (.int p4), .val (.int p5), .val (.int p6), .val (.int (p1 &&& (3 : Int32))), .val (.ref b_1), .val (.int (6 : Int32)), .val (.ref b_301), .unset, .unset, .unset, .unset, .unset] [(.ref b_1), (.int (1 : Int32)), (.ref b_301)]))
        refine own_via (fun _ => XS.iconst X_304.here hx rfl (hb hby at_269)) ?_
        show own_Go p e below _ (T_304.setTop (mkF m 270 #[.val (.int p1), .val (.int p2), .val (.long q3), .second, .val (.int p4), .val (.int p5), .val (.int p6), .val (.int (p1 &&& (3 : Int32))), .val (.ref b_1), .val (.int (6 : Int32)), .val (.ref b_301), .unset, .unset, .unset, .unset, .unset] [(.int (1 : Int32)), (.ref b_1), (.int (1 : Int32)), (.ref b_301)]))
        have K_309 : Keep h_38 h_304 [] := Keep.wr (ws := []) K_302 W_304 (Or.inr (Nat.le_of_eq g_301.symm))
        obtain ⟨cl_310, Ar_310, q_310, S_310, M_310, H_310, G_310⟩ := (id (VE.keep K_309 nin0))
        have in_310 : ¬ ((1 : Int32) < 0 ∨ cl_310.slots.size ≤ ((1 : Int32)).toNatClampNeg) := inb_of S_310 ⟨by decide, by decide⟩
        refine own_via (X_304.caload hx (j := (1 : Int32)) (v := (.int e1)) (by rw [e_304]; exact Ar_310.1) (State.isArrayOf_alike hZ.alike Ar_310.2.1) Ar_310.2.2 in_310 (Has.at H_310 in_310 rfl) (g := (mkF m 270 #[.val (.int p1), .val (.int p2), .val (.long q3), .second, .val (.int p4), .val (.int p5), .val (.int p6), .val (.int (p1 &&& (3 : Int32))), .val (.ref b_1), .val (.int (6 : Int32)), .val (.ref b_301), .unset, .unset, .unset, .unset, .unset] [(.int (1 : Int32)), (.ref b_1), (.int (1 : Int32)), (.ref b_301)])) rfl rfl (hb hby at_270)) ?_
        show own_Go p e below _ (T_304.setTop (mkF m 271 #[.val (.int p1), .val (.int p2), .val (.long q3), .second, .val (.int p4), .val (.int p5), .val (.int p6), .val (.int (p1 &&& (3 : Int32))), .val (.ref b_1), .val (.int (6 : Int32)), .val (.ref b_301), .unset, .unset, .unset, .unset, .unset] [(.int e1), (.int (1 : Int32)), (.ref b_301)]))
        obtain ⟨cl_311, Ar_311, q_311, S_311, M_311, H_311, G_311⟩ := (id V_308)
        obtain ⟨T_311, h_311, X_311, e_311, W_311, st_311⟩ := stC X_304 hx hZ e_304 Ar_311 (j := (1 : Int32)) (inb_of S_311 ⟨by decide, by decide⟩) (g := (mkF m 271 #[.val (.int p1), .val (.int p2), .val (.long q3), .second, .val (.int p4), .val (.int p5), .val (.int p6), .val (.int (p1 &&& (3 : Int32))), .val (.ref b_1), .val (.int (6 : Int32)), .val (.ref b_301), .unset, .unset, .unset, .unset, .unset] [(.int e1), (.int (1 : Int32)), (.ref b_301)])) rfl rfl (hb hby at_271)
        have V_311 : Arv Z h_311 b_301 k_301 .char (6 : Int32) [(.int e0), (.int (nar .char e1)), (.int (0 : Int32)), (.int (0 : Int32)), (.int (0 : Int32)), (.int (0 : Int32))] (.int (0 : Int32)) := Arv.set Ar_311 q_311 S_311 M_311 H_311 G_311 (fits_nar_char _) W_311 1 rfl (Nat.le_of_ble_eq_true rfl)
        have N_311 := Fr.snoc X_311 N_304 (Nat.le_trans Z0 (Nat.le_trans K_307.1 (Nat.le_of_eq g_301.symm)))
        refine own_via st_311 ?_
        show own_Go p e below _ (T_311.setTop (mkF m 272 #[.val (.int p1), .val (.int p2), .val (.long q3), .second, .val (.int p4), .val (.int p5), .val (.int p6), .val (.int (p1 &&& (3 : Int32))), .val (.ref b_1), .val (.int (6 : Int32)), .val (.ref b_301), .unset, .unset, .unset, .unset, .unset] []))
        have V_312 : Arv Z h_311 b_301 k_301 .char (6 : Int32) [(.int e0), (.int e1), (.int (0 : Int32)), (.int (0 : Int32)), (.int (0 : Int32)), (.int (0 : Int32))] (.int (0 : Int32)) := by have q := V_311; rwa [own_nar he1] at q
        refine own_via (fun _ => XS.iload X_311.here hx rfl (hb hby at_272) rfl) ?_
        show own_Go p e below _ (T_311.setTop (mkF m 274 #[.val (.int p1), .val (.int p2), .val (.long q3), .second, .val (.int p4), .val (.int p5), .val (.int p6), .val (.int (p1 &&& (3 : Int32))), .val (.ref b_1), .val (.int (6 : Int32)), .val (.ref b_301), .unset, .unset, .unset, .unset, .unset] [(.int (6 : Int32))]))
        refine own_via (fun _ => XS.iconst X_311.here hx rfl (hb hby at_274)) ?_
        show own_Go p e below _ (T_311.setTop (mkF m 275 #[.val (.int p1), .val (.int p2), .val (.long q3), .second, .val (.int p4), .val (.int p5), .val (.int p6), .val (.int (p1 &&& (3 : Int32))), .val (.ref b_1), .val (.int (6 : Int32)), .val (.ref b_301), .unset, .unset, .unset, .unset, .unset] [(.int (2 : Int32)), (.int (6 : Int32))]))
        refine own_via (fun _ => XS.icmpNo X_311.here hx rfl (hb hby at_275) rfl (tlt ((by decide) : (2 : Int32) < (6 : Int32))).2.2.2) ?_
        show own_Go p e below _ (T_311.setTop (mkF m 278 #[.val (.int p1), .val (.int p2), .val (.long q3), .second, .val (.int p4), .val (.int p5), .val (.int p6), .val (.int (p1 &&& (3 : Int32))), .val (.ref b_1), .val (.int (6 : Int32)), .val (.ref b_301), .unset, .unset, .unset, .unset, .unset] []))
        refine own_via (fun _ => XS.aload X_311.here hx rfl (hb hby at_278) rfl rfl) ?_
        show own_Go p e below _ (T_311.setTop (mkF m 280 #[.val (.int p1), .val (.int p2), .val (.long q3), .second, .val (.int p4), .val (.int p5), .val (.int p6), .val (.int (p1 &&& (3 : Int32))), .val (.ref b_1), .val (.int (6 : Int32)), .val (.ref b_301), .unset, .unset, .unset, .unset, .unset] [(.ref b_301)]))
        refine own_via (fun _ => XS.iconst X_311.here hx rfl (hb hby at_280)) ?_
        show own_Go p e below _ (T_311.setTop (mkF m 281 #[.val (.int p1), .val (.int p2), .val (.long q3), .second, .val (.int p4), .val (.int p5), .val (.int p6), .val (.int (p1 &&& (3 : Int32))), .val (.ref b_1), .val (.int (6 : Int32)), .val (.ref b_301), .unset, .unset, .unset, .unset, .unset] [(.int (2 : Int32)), (.ref b_301)]))
        refine own_via (fun _ => XS.aload X_311.here hx rfl (hb hby at_281) rfl rfl) ?_
        show own_Go p e below _ (T_311.setTop (mkF m 283 #[.val (.int p1), .val (.int p2), .val (.long q3), .second, .val (.int p4), .val (.int p5), .val (.int p6), .val (.int (p1 &&& (3 : Int32))), .val (.ref b_1), .val (.int (6 : Int32)), .val (.ref b_301), .unset, .unset, .unset, .unset, .unset] [(.ref b_1), (.int (2 : Int32)), (.ref b_301)]))
        refine own_via (fun _ => XS.iconst X_311.here hx rfl (hb hby at_283)) ?_
        show own_Go p e below _ (T_311.setTop (mkF m 284 #[.val (.int p1), .val (.int p2), .val (.long q3), .second, .val (.int p4), .val (.int p5), .val (.int p6), .val (.int (p1 &&& (3 : Int32))), .val (.ref b_1), .val (.int (6 : Int32)), .val (.ref b_301), .unset, .unset, .unset, .unset, .unset] [(.int (2 : Int32)), (.ref b_1), (.int (2 : Int32)), (.ref b_301)]))
        have K_313 : Keep h_38 h_311 [] := Keep.wr (ws := []) K_309 W_311 (Or.inr (Nat.le_of_eq g_301.symm))
        obtain ⟨cl_314, Ar_314, q_314, S_314, M_314, H_314, G_314⟩ := (id (VE.keep K_313 nin0))
        have in_314 : ¬ ((2 : Int32) < 0 ∨ cl_314.slots.size ≤ ((2 : Int32)).toNatClampNeg) := inb_of S_314 ⟨by decide, by decide⟩
        refine own_via (X_311.caload hx (j := (2 : Int32)) (v := (.int e2)) (by rw [e_311]; exact Ar_314.1) (State.isArrayOf_alike hZ.alike Ar_314.2.1) Ar_314.2.2 in_314 (Has.at H_314 in_314 rfl) (g := (mkF m 284 #[.val (.int p1), .val (.int p2), .val (.long q3), .second, .val (.int p4), .val (.int p5), .val (.int p6), .val (.int (p1 &&& (3 : Int32))), .val (.ref b_1), .val (.int (6 : Int32)), .val (.ref b_301), .unset, .unset, .unset, .unset, .unset] [(.int (2 : Int32)), (.ref b_1), (.int (2 : Int32)), (.ref b_301)])) rfl rfl (hb hby at_284)) ?_
        show own_Go p e below _ (T_311.setTop (mkF m 285 #[.val (.int p1), .val (.int p2), .val (.long q3), .second, .val (.int p4), .val (.int p5), .val (.int p6), .val (.int (p1 &&& (3 : Int32))), .val (.ref b_1), .val (.int (6 : Int32)), .val (.ref b_301), .unset, .unset, .unset, .unset, .unset] [(.int e2), (.int (2 : Int32)), (.ref b_301)]))
        obtain ⟨cl_315, Ar_315, q_315, S_315, M_315, H_315, G_315⟩ := (id V_312)
        obtain ⟨T_315, h_315, X_315, e_315, W_315, st_315⟩ := stC X_311 hx hZ e_311 Ar_315 (j := (2 : Int32)) (inb_of S_315 ⟨by decide, by decide⟩) (g := (mkF m 285 #[.val (.int p1), .val (.int p2), .val (.long q3), .second, .val (.int p4), .val (.int p5), .val (.int p6), .val (.int (p1 &&& (3 : Int32))), .val (.ref b_1), .val (.int (6 : Int32)), .val (.ref b_301), .unset, .unset, .unset, .unset, .unset] [(.int e2), (.int (2 : Int32)), (.ref b_301)])) rfl rfl (hb hby at_285)
        have V_315 : Arv Z h_315 b_301 k_301 .char (6 : Int32) [(.int e0), (.int e1), (.int (nar .char e2)), (.int (0 : Int32)), (.int (0 : Int32)), (.int (0 : Int32))] (.int (0 : Int32)) := Arv.set Ar_315 q_315 S_315 M_315 H_315 G_315 (fits_nar_char _) W_315 2 rfl (Nat.le_of_ble_eq_true rfl)
        have N_315 := Fr.snoc X_315 N_311 (Nat.le_trans Z0 (Nat.le_trans K_307.1 (Nat.le_of_eq g_301.symm)))
        refine own_via st_315 ?_
        show own_Go p e below _ (T_315.setTop (mkF m 286 #[.val (.int p1), .val (.int p2), .val (.long q3), .second, .val (.int p4), .val (.int p5), .val (.int p6), .val (.int (p1 &&& (3 : Int32))), .val (.ref b_1), .val (.int (6 : Int32)), .val (.ref b_301), .unset, .unset, .unset, .unset, .unset] []))
        have V_316 : Arv Z h_315 b_301 k_301 .char (6 : Int32) [(.int e0), (.int e1), (.int e2), (.int (0 : Int32)), (.int (0 : Int32)), (.int (0 : Int32))] (.int (0 : Int32)) := by have q := V_315; rwa [own_nar he2] at q
        refine own_via (fun _ => XS.iload X_315.here hx rfl (hb hby at_286) rfl) ?_
        show own_Go p e below _ (T_315.setTop (mkF m 288 #[.val (.int p1), .val (.int p2), .val (.long q3), .second, .val (.int p4), .val (.int p5), .val (.int p6), .val (.int (p1 &&& (3 : Int32))), .val (.ref b_1), .val (.int (6 : Int32)), .val (.ref b_301), .unset, .unset, .unset, .unset, .unset] [(.int (6 : Int32))]))
        refine own_via (fun _ => XS.iconst X_315.here hx rfl (hb hby at_288)) ?_
        show own_Go p e below _ (T_315.setTop (mkF m 289 #[.val (.int p1), .val (.int p2), .val (.long q3), .second, .val (.int p4), .val (.int p5), .val (.int p6), .val (.int (p1 &&& (3 : Int32))), .val (.ref b_1), .val (.int (6 : Int32)), .val (.ref b_301), .unset, .unset, .unset, .unset, .unset] [(.int (3 : Int32)), (.int (6 : Int32))]))
        refine own_via (fun _ => XS.icmpNo X_315.here hx rfl (hb hby at_289) rfl (tlt ((by decide) : (3 : Int32) < (6 : Int32))).2.2.2) ?_
        show own_Go p e below _ (T_315.setTop (mkF m 292 #[.val (.int p1), .val (.int p2), .val (.long q3), .second, .val (.int p4), .val (.int p5), .val (.int p6), .val (.int (p1 &&& (3 : Int32))), .val (.ref b_1), .val (.int (6 : Int32)), .val (.ref b_301), .unset, .unset, .unset, .unset, .unset] []))
        refine own_via (fun _ => XS.aload X_315.here hx rfl (hb hby at_292) rfl rfl) ?_
        show own_Go p e below _ (T_315.setTop (mkF m 294 #[.val (.int p1), .val (.int p2), .val (.long q3), .second, .val (.int p4), .val (.int p5), .val (.int p6), .val (.int (p1 &&& (3 : Int32))), .val (.ref b_1), .val (.int (6 : Int32)), .val (.ref b_301), .unset, .unset, .unset, .unset, .unset] [(.ref b_301)]))
        refine own_via (fun _ => XS.iconst X_315.here hx rfl (hb hby at_294)) ?_
        show own_Go p e below _ (T_315.setTop (mkF m 295 #[.val (.int p1), .val (.int p2), .val (.long q3), .second, .val (.int p4), .val (.int p5), .val (.int p6), .val (.int (p1 &&& (3 : Int32))), .val (.ref b_1), .val (.int (6 : Int32)), .val (.ref b_301), .unset, .unset, .unset, .unset, .unset] [(.int (3 : Int32)), (.ref b_301)]))
        refine own_via (fun _ => XS.aload X_315.here hx rfl (hb hby at_295) rfl rfl) ?_
        show own_Go p e below _ (T_315.setTop (mkF m 297 #[.val (.int p1), .val (.int p2), .val (.long q3), .second, .val (.int p4), .val (.int p5), .val (.int p6), .val (.int (p1 &&& (3 : Int32))), .val (.ref b_1), .val (.int (6 : Int32)), .val (.ref b_301), .unset, .unset, .unset, .unset, .unset] [(.ref b_1), (.int (3 : Int32)), (.ref b_301)]))
        refine own_via (fun _ => XS.iconst X_315.here hx rfl (hb hby at_297)) ?_
        show own_Go p e below _ (T_315.setTop (mkF m 298 #[.val (.int p1), .val (.int p2), .val (.long q3), .second, .val (.int p4), .val (.int p5), .val (.int p6), .val (.int (p1 &&& (3 : Int32))), .val (.ref b_1), .val (.int (6 : Int32)), .val (.ref b_301), .unset, .unset, .unset, .unset, .unset] [(.int (3 : Int32)), (.ref b_1), (.int (3 : Int32)), (.ref b_301)]))
        have K_317 : Keep h_38 h_315 [] := Keep.wr (ws := []) K_313 W_315 (Or.inr (Nat.le_of_eq g_301.symm))
        obtain ⟨cl_318, Ar_318, q_318, S_318, M_318, H_318, G_318⟩ := (id (VE.keep K_317 nin0))
        have in_318 : ¬ ((3 : Int32) < 0 ∨ cl_318.slots.size ≤ ((3 : Int32)).toNatClampNeg) := inb_of S_318 ⟨by decide, by decide⟩
        refine own_via (X_315.caload hx (j := (3 : Int32)) (v := (.int e3)) (by rw [e_315]; exact Ar_318.1) (State.isArrayOf_alike hZ.alike Ar_318.2.1) Ar_318.2.2 in_318 (Has.at H_318 in_318 rfl) (g := (mkF m 298 #[.val (.int p1), .val (.int p2), .val (.long q3), .second, .val (.int p4), .val (.int p5), .val (.int p6), .val (.int (p1 &&& (3 : Int32))), .val (.ref b_1), .val (.int (6 : Int32)), .val (.ref b_301), .unset, .unset, .unset, .unset, .unset] [(.int (3 : Int32)), (.ref b_1), (.int (3 : Int32)), (.ref b_301)])) rfl rfl (hb hby at_298)) ?_
        show own_Go p e below _ (T_315.setTop (mkF m 299 #[.val (.int p1), .val (.int p2), .val (.long q3), .second, .val (.int p4), .val (.int p5), .val (.int p6), .val (.int (p1 &&& (3 : Int32))), .val (.ref b_1), .val (.int (6 : Int32)), .val (.ref b_301), .unset, .unset, .unset, .unset, .unset] [(.int e3), (.int (3 : Int32)), (.ref b_301)]))
        obtain ⟨cl_319, Ar_319, q_319, S_319, M_319, H_319, G_319⟩ := (id V_316)
        obtain ⟨T_319, h_319, X_319, e_319, W_319, st_319⟩ := stC X_315 hx hZ e_315 Ar_319 (j := (3 : Int32)) (inb_of S_319 ⟨by decide, by decide⟩) (g := (mkF m 299 #[.val (.int p1), .val (.int p2), .val (.long q3), .second, .val (.int p4), .val (.int p5), .val (.int p6), .val (.int (p1 &&& (3 : Int32))), .val (.ref b_1), .val (.int (6 : Int32)), .val (.ref b_301), .unset, .unset, .unset, .unset, .unset] [(.int e3), (.int (3 : Int32)), (.ref b_301)])) rfl rfl (hb hby at_299)
        have V_319 : Arv Z h_319 b_301 k_301 .char (6 : Int32) [(.int e0), (.int e1), (.int e2), (.int (nar .char e3)), (.int (0 : Int32)), (.int (0 : Int32))] (.int (0 : Int32)) := Arv.set Ar_319 q_319 S_319 M_319 H_319 G_319 (fits_nar_char _) W_319 3 rfl (Nat.le_of_ble_eq_true rfl)
        have N_319 := Fr.snoc X_319 N_315 (Nat.le_trans Z0 (Nat.le_trans K_307.1 (Nat.le_of_eq g_301.symm)))
        refine own_via st_319 ?_
        show own_Go p e below _ (T_319.setTop (mkF m 300 #[.val (.int p1), .val (.int p2), .val (.long q3), .second, .val (.int p4), .val (.int p5), .val (.int p6), .val (.int (p1 &&& (3 : Int32))), .val (.ref b_1), .val (.int (6 : Int32)), .val (.ref b_301), .unset, .unset, .unset, .unset, .unset] []))
        have V_320 : Arv Z h_319 b_301 k_301 .char (6 : Int32) [(.int e0), (.int e1), (.int e2), (.int e3), (.int (0 : Int32)), (.int (0 : Int32))] (.int (0 : Int32)) := by have q := V_319; rwa [own_nar he3] at q
        refine own_via (fun _ => XS.iload X_319.here hx rfl (hb hby at_300) rfl) ?_
        show own_Go p e below _ (T_319.setTop (mkF m 302 #[.val (.int p1), .val (.int p2), .val (.long q3), .second, .val (.int p4), .val (.int p5), .val (.int p6), .val (.int (p1 &&& (3 : Int32))), .val (.ref b_1), .val (.int (6 : Int32)), .val (.ref b_301), .unset, .unset, .unset, .unset, .unset] [(.int (6 : Int32))]))
        refine own_via (fun _ => XS.iconst X_319.here hx rfl (hb hby at_302)) ?_
        show own_Go p e below _ (T_319.setTop (mkF m 303 #[.val (.int p1), .val (.int p2), .val (.long q3), .second, .val (.int p4), .val (.int p5), .val (.int p6), .val (.int (p1 &&& (3 : Int32))), .val (.ref b_1), .val (.int (6 : Int32)), .val (.ref b_301), .unset, .unset, .unset, .unset, .unset] [(.int (4 : Int32)), (.int (6 : Int32))]))
        refine own_via (fun _ => XS.icmpNo X_319.here hx rfl (hb hby at_303) rfl (tlt ((by decide) : (4 : Int32) < (6 : Int32))).2.2.2) ?_
        show own_Go p e below _ (T_319.setTop (mkF m 306 #[.val (.int p1), .val (.int p2), .val (.long q3), .second, .val (.int p4), .val (.int p5), .val (.int p6), .val (.int (p1 &&& (3 : Int32))), .val (.ref b_1), .val (.int (6 : Int32)), .val (.ref b_301), .unset, .unset, .unset, .unset, .unset] []))
        refine own_via (fun _ => XS.aload X_319.here hx rfl (hb hby at_306) rfl rfl) ?_
        show own_Go p e below _ (T_319.setTop (mkF m 308 #[.val (.int p1), .val (.int p2), .val (.long q3), .second, .val (.int p4), .val (.int p5), .val (.int p6), .val (.int (p1 &&& (3 : Int32))), .val (.ref b_1), .val (.int (6 : Int32)), .val (.ref b_301), .unset, .unset, .unset, .unset, .unset] [(.ref b_301)]))
        refine own_via (fun _ => XS.iconst X_319.here hx rfl (hb hby at_308)) ?_
        show own_Go p e below _ (T_319.setTop (mkF m 309 #[.val (.int p1), .val (.int p2), .val (.long q3), .second, .val (.int p4), .val (.int p5), .val (.int p6), .val (.int (p1 &&& (3 : Int32))), .val (.ref b_1), .val (.int (6 : Int32)), .val (.ref b_301), .unset, .unset, .unset, .unset, .unset] [(.int (4 : Int32)), (.ref b_301)]))
        refine own_via (fun _ => XS.aload X_319.here hx rfl (hb hby at_309) rfl rfl) ?_
        show own_Go p e below _ (T_319.setTop (mkF m 311 #[.val (.int p1), .val (.int p2), .val (.long q3), .second, .val (.int p4), .val (.int p5), .val (.int p6), .val (.int (p1 &&& (3 : Int32))), .val (.ref b_1), .val (.int (6 : Int32)), .val (.ref b_301), .unset, .unset, .unset, .unset, .unset] [(.ref b_1), (.int (4 : Int32)), (.ref b_301)]))
        refine own_via (fun _ => XS.iconst X_319.here hx rfl (hb hby at_311)) ?_
        show own_Go p e below _ (T_319.setTop (mkF m 312 #[.val (.int p1), .val (.int p2), .val (.long q3), .second, .val (.int p4), .val (.int p5), .val (.int p6), .val (.int (p1 &&& (3 : Int32))), .val (.ref b_1), .val (.int (6 : Int32)), .val (.ref b_301), .unset, .unset, .unset, .unset, .unset] [(.int (4 : Int32)), (.ref b_1), (.int (4 : Int32)), (.ref b_301)]))
        have K_321 : Keep h_38 h_319 [] := Keep.wr (ws := []) K_317 W_319 (Or.inr (Nat.le_of_eq g_301.symm))
        obtain ⟨cl_322, Ar_322, q_322, S_322, M_322, H_322, G_322⟩ := (id (VE.keep K_321 nin0))
        have in_322 : ¬ ((4 : Int32) < 0 ∨ cl_322.slots.size ≤ ((4 : Int32)).toNatClampNeg) := inb_of S_322 ⟨by decide, by decide⟩
        refine own_via (X_319.caload hx (j := (4 : Int32)) (v := (.int e4)) (by rw [e_319]; exact Ar_322.1) (State.isArrayOf_alike hZ.alike Ar_322.2.1) Ar_322.2.2 in_322 (Has.at H_322 in_322 rfl) (g := (mkF m 312 #[.val (.int p1), .val (.int p2), .val (.long q3), .second, .val (.int p4), .val (.int p5), .val (.int p6), .val (.int (p1 &&& (3 : Int32))), .val (.ref b_1), .val (.int (6 : Int32)), .val (.ref b_301), .unset, .unset, .unset, .unset, .unset] [(.int (4 : Int32)), (.ref b_1), (.int (4 : Int32)), (.ref b_301)])) rfl rfl (hb hby at_312)) ?_
        show own_Go p e below _ (T_319.setTop (mkF m 313 #[.val (.int p1), .val (.int p2), .val (.long q3), .second, .val (.int p4), .val (.int p5), .val (.int p6), .val (.int (p1 &&& (3 : Int32))), .val (.ref b_1), .val (.int (6 : Int32)), .val (.ref b_301), .unset, .unset, .unset, .unset, .unset] [(.int e4), (.int (4 : Int32)), (.ref b_301)]))
        obtain ⟨cl_323, Ar_323, q_323, S_323, M_323, H_323, G_323⟩ := (id V_320)
        obtain ⟨T_323, h_323, X_323, e_323, W_323, st_323⟩ := stC X_319 hx hZ e_319 Ar_323 (j := (4 : Int32)) (inb_of S_323 ⟨by decide, by decide⟩) (g := (mkF m 313 #[.val (.int p1), .val (.int p2), .val (.long q3), .second, .val (.int p4), .val (.int p5), .val (.int p6), .val (.int (p1 &&& (3 : Int32))), .val (.ref b_1), .val (.int (6 : Int32)), .val (.ref b_301), .unset, .unset, .unset, .unset, .unset] [(.int e4), (.int (4 : Int32)), (.ref b_301)])) rfl rfl (hb hby at_313)
        have V_323 : Arv Z h_323 b_301 k_301 .char (6 : Int32) [(.int e0), (.int e1), (.int e2), (.int e3), (.int (nar .char e4)), (.int (0 : Int32))] (.int (0 : Int32)) := Arv.set Ar_323 q_323 S_323 M_323 H_323 G_323 (fits_nar_char _) W_323 4 rfl (Nat.le_of_ble_eq_true rfl)
        have N_323 := Fr.snoc X_323 N_319 (Nat.le_trans Z0 (Nat.le_trans K_307.1 (Nat.le_of_eq g_301.symm)))
        refine own_via st_323 ?_
        show own_Go p e below _ (T_323.setTop (mkF m 314 #[.val (.int p1), .val (.int p2), .val (.long q3), .second, .val (.int p4), .val (.int p5), .val (.int p6), .val (.int (p1 &&& (3 : Int32))), .val (.ref b_1), .val (.int (6 : Int32)), .val (.ref b_301), .unset, .unset, .unset, .unset, .unset] []))
        have V_324 : Arv Z h_323 b_301 k_301 .char (6 : Int32) [(.int e0), (.int e1), (.int e2), (.int e3), (.int e4), (.int (0 : Int32))] (.int (0 : Int32)) := by have q := V_323; rwa [own_nar he4] at q
        refine own_via (fun _ => XS.iload X_323.here hx rfl (hb hby at_314) rfl) ?_
        show own_Go p e below _ (T_323.setTop (mkF m 316 #[.val (.int p1), .val (.int p2), .val (.long q3), .second, .val (.int p4), .val (.int p5), .val (.int p6), .val (.int (p1 &&& (3 : Int32))), .val (.ref b_1), .val (.int (6 : Int32)), .val (.ref b_301), .unset, .unset, .unset, .unset, .unset] [(.int (6 : Int32))]))
        refine own_via (fun _ => XS.iconst X_323.here hx rfl (hb hby at_316)) ?_
        show own_Go p e below _ (T_323.setTop (mkF m 317 #[.val (.int p1), .val (.int p2), .val (.long q3), .second, .val (.int p4), .val (.int p5), .val (.int p6), .val (.int (p1 &&& (3 : Int32))), .val (.ref b_1), .val (.int (6 : Int32)), .val (.ref b_301), .unset, .unset, .unset, .unset, .unset] [(.int (5 : Int32)), (.int (6 : Int32))]))
        refine own_via (fun _ => XS.icmpNo X_323.here hx rfl (hb hby at_317) rfl (tlt ((by decide) : (5 : Int32) < (6 : Int32))).2.2.2) ?_
        show own_Go p e below _ (T_323.setTop (mkF m 320 #[.val (.int p1), .val (.int p2), .val (.long q3), .second, .val (.int p4), .val (.int p5), .val (.int p6), .val (.int (p1 &&& (3 : Int32))), .val (.ref b_1), .val (.int (6 : Int32)), .val (.ref b_301), .unset, .unset, .unset, .unset, .unset] []))
        refine own_via (fun _ => XS.aload X_323.here hx rfl (hb hby at_320) rfl rfl) ?_
        show own_Go p e below _ (T_323.setTop (mkF m 322 #[.val (.int p1), .val (.int p2), .val (.long q3), .second, .val (.int p4), .val (.int p5), .val (.int p6), .val (.int (p1 &&& (3 : Int32))), .val (.ref b_1), .val (.int (6 : Int32)), .val (.ref b_301), .unset, .unset, .unset, .unset, .unset] [(.ref b_301)]))
        refine own_via (fun _ => XS.iconst X_323.here hx rfl (hb hby at_322)) ?_
        show own_Go p e below _ (T_323.setTop (mkF m 323 #[.val (.int p1), .val (.int p2), .val (.long q3), .second, .val (.int p4), .val (.int p5), .val (.int p6), .val (.int (p1 &&& (3 : Int32))), .val (.ref b_1), .val (.int (6 : Int32)), .val (.ref b_301), .unset, .unset, .unset, .unset, .unset] [(.int (5 : Int32)), (.ref b_301)]))
        refine own_via (fun _ => XS.aload X_323.here hx rfl (hb hby at_323) rfl rfl) ?_
        show own_Go p e below _ (T_323.setTop (mkF m 325 #[.val (.int p1), .val (.int p2), .val (.long q3), .second, .val (.int p4), .val (.int p5), .val (.int p6), .val (.int (p1 &&& (3 : Int32))), .val (.ref b_1), .val (.int (6 : Int32)), .val (.ref b_301), .unset, .unset, .unset, .unset, .unset] [(.ref b_1), (.int (5 : Int32)), (.ref b_301)]))
        refine own_via (fun _ => XS.iconst X_323.here hx rfl (hb hby at_325)) ?_
        show own_Go p e below _ (T_323.setTop (mkF m 326 #[.val (.int p1), .val (.int p2), .val (.long q3), .second, .val (.int p4), .val (.int p5), .val (.int p6), .val (.int (p1 &&& (3 : Int32))), .val (.ref b_1), .val (.int (6 : Int32)), .val (.ref b_301), .unset, .unset, .unset, .unset, .unset] [(.int (5 : Int32)), (.ref b_1), (.int (5 : Int32)), (.ref b_301)]))
        have K_325 : Keep h_38 h_323 [] := Keep.wr (ws := []) K_321 W_323 (Or.inr (Nat.le_of_eq g_301.symm))
        obtain ⟨cl_326, Ar_326, q_326, S_326, M_326, H_326, G_326⟩ := (id (VE.keep K_325 nin0))
        have in_326 : ¬ ((5 : Int32) < 0 ∨ cl_326.slots.size ≤ ((5 : Int32)).toNatClampNeg) := inb_of S_326 ⟨by decide, by decide⟩
        refine own_via (X_323.caload hx (j := (5 : Int32)) (v := (.int e5)) (by rw [e_323]; exact Ar_326.1) (State.isArrayOf_alike hZ.alike Ar_326.2.1) Ar_326.2.2 in_326 (Has.at H_326 in_326 rfl) (g := (mkF m 326 #[.val (.int p1), .val (.int p2), .val (.long q3), .second, .val (.int p4), .val (.int p5), .val (.int p6), .val (.int (p1 &&& (3 : Int32))), .val (.ref b_1), .val (.int (6 : Int32)), .val (.ref b_301), .unset, .unset, .unset, .unset, .unset] [(.int (5 : Int32)), (.ref b_1), (.int (5 : Int32)), (.ref b_301)])) rfl rfl (hb hby at_326)) ?_
        show own_Go p e below _ (T_323.setTop (mkF m 327 #[.val (.int p1), .val (.int p2), .val (.long q3), .second, .val (.int p4), .val (.int p5), .val (.int p6), .val (.int (p1 &&& (3 : Int32))), .val (.ref b_1), .val (.int (6 : Int32)), .val (.ref b_301), .unset, .unset, .unset, .unset, .unset] [(.int e5), (.int (5 : Int32)), (.ref b_301)]))
        obtain ⟨cl_327, Ar_327, q_327, S_327, M_327, H_327, G_327⟩ := (id V_324)
        obtain ⟨T_327, h_327, X_327, e_327, W_327, st_327⟩ := stC X_323 hx hZ e_323 Ar_327 (j := (5 : Int32)) (inb_of S_327 ⟨by decide, by decide⟩) (g := (mkF m 327 #[.val (.int p1), .val (.int p2), .val (.long q3), .second, .val (.int p4), .val (.int p5), .val (.int p6), .val (.int (p1 &&& (3 : Int32))), .val (.ref b_1), .val (.int (6 : Int32)), .val (.ref b_301), .unset, .unset, .unset, .unset, .unset] [(.int e5), (.int (5 : Int32)), (.ref b_301)])) rfl rfl (hb hby at_327)
        have V_327 : Arv Z h_327 b_301 k_301 .char (6 : Int32) [(.int e0), (.int e1), (.int e2), (.int e3), (.int e4), (.int (nar .char e5))] (.int (0 : Int32)) := Arv.set Ar_327 q_327 S_327 M_327 H_327 G_327 (fits_nar_char _) W_327 5 rfl (Nat.le_of_ble_eq_true rfl)
        have N_327 := Fr.snoc X_327 N_323 (Nat.le_trans Z0 (Nat.le_trans K_307.1 (Nat.le_of_eq g_301.symm)))
        refine own_via st_327 ?_
        show own_Go p e below _ (T_327.setTop (mkF m 328 #[.val (.int p1), .val (.int p2), .val (.long q3), .second, .val (.int p4), .val (.int p5), .val (.int p6), .val (.int (p1 &&& (3 : Int32))), .val (.ref b_1), .val (.int (6 : Int32)), .val (.ref b_301), .unset, .unset, .unset, .unset, .unset] []))
        have V_328 : Arv Z h_327 b_301 k_301 .char (6 : Int32) [(.int e0), (.int e1), (.int e2), (.int e3), (.int e4), (.int e5)] (.int (0 : Int32)) := by have q := V_327; rwa [own_nar he5] at q
        refine own_via (fun _ => XS.iload X_327.here hx rfl (hb hby at_328) rfl) ?_
        show own_Go p e below _ (T_327.setTop (mkF m 330 #[.val (.int p1), .val (.int p2), .val (.long q3), .second, .val (.int p4), .val (.int p5), .val (.int p6), .val (.int (p1 &&& (3 : Int32))), .val (.ref b_1), .val (.int (6 : Int32)), .val (.ref b_301), .unset, .unset, .unset, .unset, .unset] [(.int (6 : Int32))]))
        refine own_via (fun _ => XS.bipush X_327.here hx rfl (hb hby at_330)) ?_
        show own_Go p e below _ (T_327.setTop (mkF m 332 #[.val (.int p1), .val (.int p2), .val (.long q3), .second, .val (.int p4), .val (.int p5), .val (.int p6), .val (.int (p1 &&& (3 : Int32))), .val (.ref b_1), .val (.int (6 : Int32)), .val (.ref b_301), .unset, .unset, .unset, .unset, .unset] [(.int (6 : Int32)), (.int (6 : Int32))]))
        refine own_via (fun _ => XS.icmpYes X_327.here hx rfl (pc0 := 332) (pc' := 345) rfl (hb hby at_332) rfl (flt ((by decide) : ¬ ((6 : Int32) < (6 : Int32)))).2.2.2 (by decide) (by decide)) ?_
        show own_Go p e below _ (T_327.setTop (mkF m 345 #[.val (.int p1), .val (.int p2), .val (.long q3), .second, .val (.int p4), .val (.int p5), .val (.int p6), .val (.int (p1 &&& (3 : Int32))), .val (.ref b_1), .val (.int (6 : Int32)), .val (.ref b_301), .unset, .unset, .unset, .unset, .unset] []))
        obtain ⟨T_329, h_329, X_329, e_329, E_329, A_329, D_329, -, st_329⟩ := newO X_327 hx hZ hown (own_w hw 6 rfl) (own_w hw 7 rfl) (own_w hw 8 rfl) e_327 (g := (mkF m 345 #[.val (.int p1), .val (.int p2), .val (.long q3), .second, .val (.int p4), .val (.int p5), .val (.int p6), .val (.int (p1 &&& (3 : Int32))), .val (.ref b_1), .val (.int (6 : Int32)), .val (.ref b_301), .unset, .unset, .unset, .unset, .unset] [])) rfl (hb hby at_345) (by decide) (by decide)
        obtain ⟨b_329, g_329⟩ : ∃ z, z = h_327.size := ⟨_, rfl⟩
        rw [← g_329] at A_329 D_329 st_329
        have F_330 : Fld Z h_329 b_329 "com/example/cascadilla/cascadilla/language/Type" "name" "Ljava/lang/String;" .null := D_329 (Or.inr (own_w hw 43 rfl)) (ty := (.object "java/lang/String")) (by decide)
        have F_331 : Fld Z h_329 b_329 "com/example/cascadilla/cascadilla/language/Type" "label" "Lcom/example/cascadilla/cascadilla/language/Label;" .null := D_329 (Or.inr (own_w hw 45 rfl)) (ty := (.object "com/example/cascadilla/cascadilla/language/Label")) (by decide)
        have F_332 : Fld Z h_329 b_329 "com/example/cascadilla/cascadilla/language/Type" "line" "I" (.int (0 : Int32)) := D_329 (Or.inr (own_w hw 47 rfl)) (ty := .int) (by decide)
        refine own_via st_329 ?_
        show own_Go p e below _ (T_329.setTop (mkF m 348 #[.val (.int p1), .val (.int p2), .val (.long q3), .second, .val (.int p4), .val (.int p5), .val (.int p6), .val (.int (p1 &&& (3 : Int32))), .val (.ref b_1), .val (.int (6 : Int32)), .val (.ref b_301), .unset, .unset, .unset, .unset, .unset] [(.ref b_329)]))
        refine own_via (fun _ => XS.dup X_329.here hx rfl (hb hby at_348) rfl rfl) ?_
        show own_Go p e below _ (T_329.setTop (mkF m 349 #[.val (.int p1), .val (.int p2), .val (.long q3), .second, .val (.int p4), .val (.int p5), .val (.int p6), .val (.int (p1 &&& (3 : Int32))), .val (.ref b_1), .val (.int (6 : Int32)), .val (.ref b_301), .unset, .unset, .unset, .unset, .unset] [(.ref b_329), (.ref b_329)]))
        obtain ⟨T_333, h_333, X_333, e_333, E_333, A_333, D_333, -, st_333⟩ := newO X_329 hx hZ hown (own_w hw 9 rfl) (own_w hw 10 rfl) (own_w hw 11 rfl) e_329 (g := (mkF m 349 #[.val (.int p1), .val (.int p2), .val (.long q3), .second, .val (.int p4), .val (.int p5), .val (.int p6), .val (.int (p1 &&& (3 : Int32))), .val (.ref b_1), .val (.int (6 : Int32)), .val (.ref b_301), .unset, .unset, .unset, .unset, .unset] [(.ref b_329), (.ref b_329)])) rfl (hb hby at_349) (by decide) (by decide)
        obtain ⟨b_333, g_333⟩ : ∃ z, z = h_329.size := ⟨_, rfl⟩
        rw [← g_333] at A_333 D_333 st_333
        have F_334 : Fld Z h_333 b_333 "java/lang/String" "coder" "B" (.int (0 : Int32)) := D_333 (Or.inr (own_w hw 35 rfl)) (ty := .byte) (by decide)
        have F_335 : Fld Z h_333 b_333 "java/lang/String" "value" "[B" .null := D_333 (Or.inr (own_w hw 37 rfl)) (ty := (.array .byte)) (by decide)
        refine own_via st_333 ?_
        show own_Go p e below _ (T_333.setTop (mkF m 352 #[.val (.int p1), .val (.int p2), .val (.long q3), .second, .val (.int p4), .val (.int p5), .val (.int p6), .val (.int (p1 &&& (3 : Int32))), .val (.ref b_1), .val (.int (6 : Int32)), .val (.ref b_301), .unset, .unset, .unset, .unset, .unset] [(.ref b_333), (.ref b_329), (.ref b_329)]))
        refine own_via (fun _ => XS.dup X_333.here hx rfl (hb hby at_352) rfl rfl) ?_
        show own_Go p e below _ (T_333.setTop (mkF m 353 #[.val (.int p1), .val (.int p2), .val (.long q3), .second, .val (.int p4), .val (.int p5), .val (.int p6), .val (.int (p1 &&& (3 : Int32))), .val (.ref b_1), .val (.int (6 : Int32)), .val (.ref b_301), .unset, .unset, .unset, .unset, .unset] [(.ref b_333), (.ref b_333), (.ref b_329), (.ref b_329)]))
        refine own_via (fun _ => XS.aload X_333.here hx rfl (hb hby at_353) rfl rfl) ?_
        show own_Go p e below _ (T_333.setTop (mkF m 355 #[.val (.int p1), .val (.int p2), .val (.long q3), .second, .val (.int p4), .val (.int p5), .val (.int p6), .val (.int (p1 &&& (3 : Int32))), .val (.ref b_1), .val (.int (6 : Int32)), .val (.ref b_301), .unset, .unset, .unset, .unset, .unset] [(.ref b_301), (.ref b_333), (.ref b_333), (.ref b_329), (.ref b_329)]))
        have hp : ∀ c ∈ ([e0, e1, e2, e3, e4, e5] : List Int32), ¬ c < 0 ∧ ¬ (255 : Int32) < c := by intro c hc; simp only [List.mem_cons, List.not_mem_nil, or_false] at hc; rcases hc with rfl | rfl | rfl | rfl | rfl | rfl <;> assumption
        have K_336 : Keep h_327 h_329 [] := (Keep.refl h_327 []).ext E_329
        have K_337 : Keep h_327 h_333 [] := K_336.ext E_333
        have K_338 : Keep h0 h_301 [] := K_307.ext E_301
        have K_339 : Keep h0 h_304 [] := Keep.wr (ws := []) K_338 W_304 (Or.inr (Nat.le_trans K_307.1 (Nat.le_of_eq g_301.symm)))
        have K_340 : Keep h0 h_311 [] := Keep.wr (ws := []) K_339 W_311 (Or.inr (Nat.le_trans K_307.1 (Nat.le_of_eq g_301.symm)))
        have K_341 : Keep h0 h_315 [] := Keep.wr (ws := []) K_340 W_315 (Or.inr (Nat.le_trans K_307.1 (Nat.le_of_eq g_301.symm)))
        have K_342 : Keep h0 h_319 [] := Keep.wr (ws := []) K_341 W_319 (Or.inr (Nat.le_trans K_307.1 (Nat.le_of_eq g_301.symm)))
        have K_343 : Keep h0 h_323 [] := Keep.wr (ws := []) K_342 W_323 (Or.inr (Nat.le_trans K_307.1 (Nat.le_of_eq g_301.symm)))
        have K_344 : Keep h0 h_327 [] := Keep.wr (ws := []) K_343 W_327 (Or.inr (Nat.le_trans K_307.1 (Nat.le_of_eq g_301.symm)))
        have K_345 : Keep h0 h_329 [] := K_344.ext E_329
        have K_346 : Keep h0 h_333 [] := K_345.ext E_333
        obtain ⟨_, _, ⟨T_347, L_347, k_347, n_347⟩, -, X_347, ⟨Lc_347, hQ_347, l_347, y_347, z_347⟩, st_347⟩ := X_333.specialBack hx (y := (⟨"java/lang/String", "<init>", "([C)V"⟩ : MethodName)) rfl hown (mvT hZ (own_w hw 12 rfl)) (mvT hZ (own_w hw 13 rfl)) (mvT hZ (own_w hw 14 rfl)) (by decide) (StrChars.Road.backV (W := 3) hZ (own_hwords hw) (kI := 4) (own_w hw 10 rfl) (cs := ([e0, e1, e2, e3, e4, e5] : List Int32)) (bs := ([e0, e1, e2, e3, e4, e5] : List Int32).map (fun c => c.toInt8.toInt32)) (n := 6) (Nat.le_trans Z0 (Nat.le_trans K_345.1 (Nat.le_of_eq g_333.symm))) (Nat.le_trans Z0 K_346.1) A_333 F_335 F_334 (V_328.keep K_337 nin0) (Scs.ext (O0.keep K_346 all0).2) hcs rfl rfl (by decide) (by decide) hp rfl (by decide) (by decide)) (g := (mkF m 355 #[.val (.int p1), .val (.int p2), .val (.long q3), .second, .val (.int p4), .val (.int p5), .val (.int p6), .val (.int (p1 &&& (3 : Int32))), .val (.ref b_1), .val (.int (6 : Int32)), .val (.ref b_301), .unset, .unset, .unset, .unset, .unset] [(.ref b_301), (.ref b_333), (.ref b_333), (.ref b_329), (.ref b_329)])) rfl (by rw [hml]; rfl) (Steps.refl _) (a := b_333) (argsL := [(.ref b_301)]) (rest := [(.ref b_333), (.ref b_329), (.ref b_329)]) (lenOf pd_6 rfl) rfl (by show 2 * 0 + _ ≤ _; exact Nat.le_of_eq rfl) (hb hby at_355) (fun _ _ => ⟨rfl, e_333, (by decide : 4 + 1 ≤ _), (by decide : 20 + 6 ≤ _)⟩)
        dsimp only [Pt.U, Pt.locs, Pt.cells, Pt.slots] at X_347 l_347 y_347 z_347 st_347 hQ_347
        subst l_347 y_347 z_347
        obtain ⟨rfl, Nq_347, K_347q, EX_347, FC_347, t_347, kb_347, -, ft_347, -, FV_347, FA_347⟩ := hQ_347
        have N_347 := Fr.app N_327 Nq_347
        refine own_via (fun _ k => st_347.trans k) ?_
        show own_Go p e below _ (T_347.setTop (mkF m 358 #[.val (.int p1), .val (.int p2), .val (.long q3), .second, .val (.int p4), .val (.int p5), .val (.int p6), .val (.int (p1 &&& (3 : Int32))), .val (.ref b_1), .val (.int (6 : Int32)), .val (.ref b_301), .unset, .unset, .unset, .unset, .unset] [(.ref b_333), (.ref b_329), (.ref b_329)]))
        have SS : own_Str Z T_347.heap b_333 [e0, e1, e2, e3, e4, e5] := ⟨EX_347, FC_347, ⟨t_347, kb_347, FV_347, FA_347⟩, hp, by simp⟩
        refine own_via (fun _ => XS.aconstNull X_347.here hx rfl (hb hby at_358)) ?_
        show own_Go p e below _ (T_347.setTop (mkF m 359 #[.val (.int p1), .val (.int p2), .val (.long q3), .second, .val (.int p4), .val (.int p5), .val (.int p6), .val (.int (p1 &&& (3 : Int32))), .val (.ref b_1), .val (.int (6 : Int32)), .val (.ref b_301), .unset, .unset, .unset, .unset, .unset] [.null, (.ref b_333), (.ref b_329), (.ref b_329)]))
        refine own_via (fun _ => XS.iload X_347.here hx rfl (hb hby at_359) rfl) ?_
        show own_Go p e below _ (T_347.setTop (mkF m 361 #[.val (.int p1), .val (.int p2), .val (.long q3), .second, .val (.int p4), .val (.int p5), .val (.int p6), .val (.int (p1 &&& (3 : Int32))), .val (.ref b_1), .val (.int (6 : Int32)), .val (.ref b_301), .unset, .unset, .unset, .unset, .unset] [(.int p6), .null, (.ref b_333), (.ref b_329), (.ref b_329)]))
        have K_348 : Keep h_329 h_333 [] := (Keep.refl h_329 []).ext E_333
        have K_349 : Keep h_329 T_347.heap [] := Keep.trans (ws := []) K_348 K_347q (allS (Or.inr (Nat.le_of_eq g_333.symm)) all0)
        have K_350 : Keep h0 T_347.heap [] := Keep.trans (ws := []) K_346 K_347q (allS (Or.inr (Nat.le_trans K_345.1 (Nat.le_of_eq g_333.symm))) all0)
        obtain ⟨_, _, ⟨T_351, L_351, k_351, n_351⟩, -, X_351, ⟨Lc_351, hQ_351, l_351, y_351, z_351⟩, st_351⟩ := X_347.specialBack hx (y := (⟨"com/example/cascadilla/cascadilla/language/Type", "<init>", "(Ljava/lang/String;Lcom/example/cascadilla/cascadilla/language/Label;I)V"⟩ : MethodName)) rfl hown (mvT hZ (own_w hw 38 rfl)) (mvT hZ (own_w hw 39 rfl)) (mvT hZ (own_w hw 40 rfl)) (by decide) (backOf (W := 1) (rmtype l Z a0 hw [] b_329 b_333 p6 T_347.heap n0 (Nat.le_trans Z0 K_350.1) (A_329.keep K_349) (F_330.keep K_349 nin0) (F_331.keep K_349 nin0) (F_332.keep K_349 nin0) (Nat.le_trans Z0 (Nat.le_trans K_344.1 (Nat.le_of_eq g_329.symm)))) hZ (own_w hw 40 rfl) (own_w hw 8 rfl) (by decide) (by decide)) (g := (mkF m 361 #[.val (.int p1), .val (.int p2), .val (.long q3), .second, .val (.int p4), .val (.int p5), .val (.int p6), .val (.int (p1 &&& (3 : Int32))), .val (.ref b_1), .val (.int (6 : Int32)), .val (.ref b_301), .unset, .unset, .unset, .unset, .unset] [(.int p6), .null, (.ref b_333), (.ref b_329), (.ref b_329)])) rfl (by rw [hml]; rfl) (Steps.refl _) (a := b_329) (argsL := [(.ref b_333), .null, (.int p6)]) (rest := [(.ref b_329)]) (lenOf pd_7 rfl) rfl (by show 2 * 0 + _ ≤ _; exact Nat.le_of_eq rfl) (hb hby at_361) (fun _ _ => ⟨rfl, rfl, (by decide : 5 + 0 ≤ _), (by decide : 26 + 0 ≤ _)⟩)
        dsimp only [Pt.U, Pt.locs, Pt.cells, Pt.slots] at X_351 l_351 y_351 z_351 st_351 hQ_351
        subst l_351 y_351 z_351
        obtain ⟨rfl, Nq_351, K_351q, q_351_0⟩ := hQ_351
        have N_351 := Fr.app N_347 Nq_351
        refine own_via (fun _ k => st_351.trans k) ?_
        show own_Go p e below _ (T_351.setTop (mkF m 364 #[.val (.int p1), .val (.int p2), .val (.long q3), .second, .val (.int p4), .val (.int p5), .val (.int p6), .val (.int (p1 &&& (3 : Int32))), .val (.ref b_1), .val (.int (6 : Int32)), .val (.ref b_301), .unset, .unset, .unset, .unset, .unset] [(.ref b_329)]))
        refine own_via (fun _ => XS.astore X_351.here hx rfl (hb hby at_364) rfl rfl (l' := #[.val (.int p1), .val (.int p2), .val (.long q3), .second, .val (.int p4), .val (.int p5), .val (.int p6), .val (.int (p1 &&& (3 : Int32))), .val (.ref b_1), .val (.int (6 : Int32)), .val (.ref b_301), .val (.ref b_329), .unset, .unset, .unset, .unset]) rfl) ?_
        show own_Go p e below _ (T_351.setTop (mkF m 366 #[.val (.int p1), .val (.int p2), .val (.long q3), .second, .val (.int p4), .val (.int p5), .val (.int p6), .val (.int (p1 &&& (3 : Int32))), .val (.ref b_1), .val (.int (6 : Int32)), .val (.ref b_301), .val (.ref b_329), .unset, .unset, .unset, .unset] []))
        refine own_via (fun _ => XS.aload X_351.here hx rfl (hb hby at_366) rfl rfl) ?_
        show own_Go p e below _ (T_351.setTop (mkF m 368 #[.val (.int p1), .val (.int p2), .val (.long q3), .second, .val (.int p4), .val (.int p5), .val (.int p6), .val (.int (p1 &&& (3 : Int32))), .val (.ref b_1), .val (.int (6 : Int32)), .val (.ref b_301), .val (.ref b_329), .unset, .unset, .unset, .unset] [(.ref b_329)]))
        have K_352 : Keep T_347.heap T_351.heap [b_329] := Keep.trans (ws := [b_329]) (own_keep_mono (Keep.refl T_347.heap []) (by simp)) K_351q (allS (Or.inl (List.mem_of_getElem? (i := 0) rfl)) all0)
        have K_353 : Keep h0 T_351.heap [] := Keep.trans (ws := []) K_350 K_351q (allS (Or.inr (Nat.le_trans K_344.1 (Nat.le_of_eq g_329.symm))) all0)
        have K_355 : Keep h_329 T_351.heap [b_329] := Keep.trans (ws := [b_329]) (own_keep_mono K_349 (by simp)) K_351q (allS (Or.inl (List.mem_of_getElem? (i := 0) rfl)) all0)
        obtain ⟨cq_354, kq_354, q_354a, q_354b, q_354c⟩ := isOf hZ rfl (A_329.keep K_355)
        obtain ⟨_, _, ⟨T_354, L_354, k_354, n_354⟩, -, Xc_354, hSc_354, hgc_354, ⟨Lc_354, hQ_354, l_354, y_354, z_354⟩, st_354⟩ := X_351.virtualBackS hx (y := (⟨"com/example/cascadilla/cascadilla/language/Type", "isClass", "()Z"⟩ : MethodName)) (z := (⟨"com/example/cascadilla/cascadilla/language/Type", "isClass", "()Z"⟩ : MethodName)) hown (mvT hZ (own_w hw 48 rfl)) (mvT hZ (own_w hw 49 rfl)) (notFace_of_selects (args := #[]) (mvT hZ (own_w hw 51 rfl))) (mvT hZ (own_w hw 51 rfl)) (mvT hZ (own_w hw 50 rfl)) (by decide) (own_backS (J := fun vm_ => CHv Z consts_1 vm_ T_351.heap) (W := 0) (rmisClass l Z a0 hw [] b_329 b_333 [e0, e1, e2, e3, e4, e5] cs T_351.heap n0 (Nat.le_trans Z0 K_353.1) (O0.keep K_353 all0) Scs hcs q_351_0 (SS.keepO K_352 (own_offS (A_329.keep K_349) (by decide) (own_w hw 7 rfl) own_off0))) hZ (own_w hw 52 rfl) (own_w hw 8 rfl) (by decide) (by decide)) q_354a q_354c (g := (mkF m 368 #[.val (.int p1), .val (.int p2), .val (.long q3), .second, .val (.int p4), .val (.int p5), .val (.int p6), .val (.int (p1 &&& (3 : Int32))), .val (.ref b_1), .val (.int (6 : Int32)), .val (.ref b_301), .val (.ref b_329), .unset, .unset, .unset, .unset] [(.ref b_329)])) rfl (by rw [hml]; rfl) (Steps.refl _) (argsL := []) (rest := []) (lenOf pd_8 rfl) rfl (by show 2 * 0 + _ ≤ _; exact Nat.le_of_eq rfl) (hb hby at_368) (fun _ hW1 => ⟨rfl, rfl, (own_CHstay (J0.keep K_353 all0) hZ (own_EW hw) hW1), (by decide : 5 + 4 ≤ _), (by decide : 26 + 48 ≤ _)⟩)
        dsimp only [Pt.U, Pt.locs, Pt.cells, Pt.slots] at Xc_354 hSc_354 hgc_354 l_354 y_354 z_354 st_354 hQ_354
        subst l_354 y_354 z_354
        obtain ⟨X_354, hS_354, hZ_354, ho_354⟩ := rebS hS0 (Nat.le_trans (Nat.zero_le _) K_353.1) Xc_354 hSc_354 hgc_354 hZ hown
        obtain ⟨i_356, rfl, Nq_354, K_354q, q_354_0, J_354⟩ := hQ_354
        have N_354 := Fr.app N_351 Nq_354
        refine own_via (fun _ k => st_354.trans k) ?_
        show own_Go p e below _ (T_354.setTop (mkF m 371 #[.val (.int p1), .val (.int p2), .val (.long q3), .second, .val (.int p4), .val (.int p5), .val (.int p6), .val (.int (p1 &&& (3 : Int32))), .val (.ref b_1), .val (.int (6 : Int32)), .val (.ref b_301), .val (.ref b_329), .unset, .unset, .unset, .unset] [(.int i_356)]))
        refine own_via (fun _ => XS.istore X_354.here hx rfl (hb hby at_371) rfl (l' := #[.val (.int p1), .val (.int p2), .val (.long q3), .second, .val (.int p4), .val (.int p5), .val (.int p6), .val (.int (p1 &&& (3 : Int32))), .val (.ref b_1), .val (.int (6 : Int32)), .val (.ref b_301), .val (.ref b_329), .val (.int i_356), .unset, .unset, .unset]) rfl) ?_
        show own_Go p e below _ (T_354.setTop (mkF m 373 #[.val (.int p1), .val (.int p2), .val (.long q3), .second, .val (.int p4), .val (.int p5), .val (.int p6), .val (.int (p1 &&& (3 : Int32))), .val (.ref b_1), .val (.int (6 : Int32)), .val (.ref b_301), .val (.ref b_329), .val (.int i_356), .unset, .unset, .unset] []))
        refine own_via (fun _ => XS.iload X_354.here hx rfl (hb hby at_373) rfl) ?_
        show own_Go p e below _ (T_354.setTop (mkF m 375 #[.val (.int p1), .val (.int p2), .val (.long q3), .second, .val (.int p4), .val (.int p5), .val (.int p6), .val (.int (p1 &&& (3 : Int32))), .val (.ref b_1), .val (.int (6 : Int32)), .val (.ref b_301), .val (.ref b_329), .val (.int i_356), .unset, .unset, .unset] [(.int (6 : Int32))]))
        refine own_via (fun _ => XS.iconst X_354.here hx rfl (hb hby at_375)) ?_
        show own_Go p e below _ (T_354.setTop (mkF m 376 #[.val (.int p1), .val (.int p2), .val (.long q3), .second, .val (.int p4), .val (.int p5), .val (.int p6), .val (.int (p1 &&& (3 : Int32))), .val (.ref b_1), .val (.int (6 : Int32)), .val (.ref b_301), .val (.ref b_329), .val (.int i_356), .unset, .unset, .unset] [(.int (3 : Int32)), (.int (6 : Int32))]))
        obtain ⟨z13, ez13⟩ : ∃ z : Int32, z = (0 : Int32) := ⟨_, rfl⟩
        refine own_seq (B := T_354.setTop (mkF m 411 #[.val (.int p1), .val (.int p2), .val (.long q3), .second, .val (.int p4), .val (.int p5), .val (.int p6), .val (.int (p1 &&& (3 : Int32))), .val (.ref b_1), .val (.int (6 : Int32)), .val (.ref b_301), .val (.ref b_329), .val (.int i_356), .unset, .unset, .unset] [(.int z13)])) (fun kz => ?_) ?_
        · refine own_via (fun _ => XS.icmpYes X_354.here hx rfl (pc0 := 376) (pc' := 410) rfl (hb hby at_376) rfl (feq ((by decide) : ¬ ((6 : Int32) = (3 : Int32)))).2 (by decide) (by decide)) ?_
          show own_Go p e below _ (T_354.setTop (mkF m 410 #[.val (.int p1), .val (.int p2), .val (.long q3), .second, .val (.int p4), .val (.int p5), .val (.int p6), .val (.int (p1 &&& (3 : Int32))), .val (.ref b_1), .val (.int (6 : Int32)), .val (.ref b_301), .val (.ref b_329), .val (.int i_356), .unset, .unset, .unset] []))
          refine own_via (fun _ => XS.iconst X_354.here hx rfl (hb hby at_410)) ?_
          show own_Go p e below _ (T_354.setTop (mkF m 411 #[.val (.int p1), .val (.int p2), .val (.long q3), .second, .val (.int p4), .val (.int p5), .val (.int p6), .val (.int (p1 &&& (3 : Int32))), .val (.ref b_1), .val (.int (6 : Int32)), .val (.ref b_301), .val (.ref b_329), .val (.int i_356), .unset, .unset, .unset] [(.int (0 : Int32))]))
          subst ez13
          exact kz
        show own_Go p e below _ (T_354.setTop (mkF m 411 #[.val (.int p1), .val (.int p2), .val (.long q3), .second, .val (.int p4), .val (.int p5), .val (.int p6), .val (.int (p1 &&& (3 : Int32))), .val (.ref b_1), .val (.int (6 : Int32)), .val (.ref b_301), .val (.ref b_329), .val (.int i_356), .unset, .unset, .unset] [(.int z13)]))
        refine own_via (fun _ => XS.istore X_354.here hx rfl (hb hby at_411) rfl (l' := #[.val (.int p1), .val (.int p2), .val (.long q3), .second, .val (.int p4), .val (.int p5), .val (.int p6), .val (.int (p1 &&& (3 : Int32))), .val (.ref b_1), .val (.int (6 : Int32)), .val (.ref b_301), .val (.ref b_329), .val (.int i_356), .val (.int z13), .unset, .unset]) rfl) ?_
        show own_Go p e below _ (T_354.setTop (mkF m 413 #[.val (.int p1), .val (.int p2), .val (.long q3), .second, .val (.int p4), .val (.int p5), .val (.int p6), .val (.int (p1 &&& (3 : Int32))), .val (.ref b_1), .val (.int (6 : Int32)), .val (.ref b_301), .val (.ref b_329), .val (.int i_356), .val (.int z13), .unset, .unset] []))
        refine own_via (fun _ => XS.iload X_354.here hx rfl (hb hby at_413) rfl) ?_
        show own_Go p e below _ (T_354.setTop (mkF m 415 #[.val (.int p1), .val (.int p2), .val (.long q3), .second, .val (.int p4), .val (.int p5), .val (.int p6), .val (.int (p1 &&& (3 : Int32))), .val (.ref b_1), .val (.int (6 : Int32)), .val (.ref b_301), .val (.ref b_329), .val (.int i_356), .val (.int z13), .unset, .unset] [(.int (6 : Int32))]))
        refine own_via (fun _ => XS.bipush X_354.here hx rfl (hb hby at_415)) ?_
        show own_Go p e below _ (T_354.setTop (mkF m 417 #[.val (.int p1), .val (.int p2), .val (.long q3), .second, .val (.int p4), .val (.int p5), .val (.int p6), .val (.int (p1 &&& (3 : Int32))), .val (.ref b_1), .val (.int (6 : Int32)), .val (.ref b_301), .val (.ref b_329), .val (.int i_356), .val (.int z13), .unset, .unset] [(.int (7 : Int32)), (.int (6 : Int32))]))
        obtain ⟨z14, ez14⟩ : ∃ z : Int32, z = (0 : Int32) := ⟨_, rfl⟩
        refine own_seq (B := T_354.setTop (mkF m 489 #[.val (.int p1), .val (.int p2), .val (.long q3), .second, .val (.int p4), .val (.int p5), .val (.int p6), .val (.int (p1 &&& (3 : Int32))), .val (.ref b_1), .val (.int (6 : Int32)), .val (.ref b_301), .val (.ref b_329), .val (.int i_356), .val (.int z13), .unset, .unset] [(.int z14)])) (fun kz => ?_) ?_
        · refine own_via (fun _ => XS.icmpYes X_354.here hx rfl (pc0 := 417) (pc' := 488) rfl (hb hby at_417) rfl (feq ((by decide) : ¬ ((6 : Int32) = (7 : Int32)))).2 (by decide) (by decide)) ?_
          show own_Go p e below _ (T_354.setTop (mkF m 488 #[.val (.int p1), .val (.int p2), .val (.long q3), .second, .val (.int p4), .val (.int p5), .val (.int p6), .val (.int (p1 &&& (3 : Int32))), .val (.ref b_1), .val (.int (6 : Int32)), .val (.ref b_301), .val (.ref b_329), .val (.int i_356), .val (.int z13), .unset, .unset] []))
          refine own_via (fun _ => XS.iconst X_354.here hx rfl (hb hby at_488)) ?_
          show own_Go p e below _ (T_354.setTop (mkF m 489 #[.val (.int p1), .val (.int p2), .val (.long q3), .second, .val (.int p4), .val (.int p5), .val (.int p6), .val (.int (p1 &&& (3 : Int32))), .val (.ref b_1), .val (.int (6 : Int32)), .val (.ref b_301), .val (.ref b_329), .val (.int i_356), .val (.int z13), .unset, .unset] [(.int (0 : Int32))]))
          subst ez14
          exact kz
        show own_Go p e below _ (T_354.setTop (mkF m 489 #[.val (.int p1), .val (.int p2), .val (.long q3), .second, .val (.int p4), .val (.int p5), .val (.int p6), .val (.int (p1 &&& (3 : Int32))), .val (.ref b_1), .val (.int (6 : Int32)), .val (.ref b_301), .val (.ref b_329), .val (.int i_356), .val (.int z13), .unset, .unset] [(.int z14)]))
        refine own_via (fun _ => XS.istore X_354.here hx rfl (hb hby at_489) rfl (l' := #[.val (.int p1), .val (.int p2), .val (.long q3), .second, .val (.int p4), .val (.int p5), .val (.int p6), .val (.int (p1 &&& (3 : Int32))), .val (.ref b_1), .val (.int (6 : Int32)), .val (.ref b_301), .val (.ref b_329), .val (.int i_356), .val (.int z13), .val (.int z14), .unset]) rfl) ?_
        show own_Go p e below _ (T_354.setTop (mkF m 491 #[.val (.int p1), .val (.int p2), .val (.long q3), .second, .val (.int p4), .val (.int p5), .val (.int p6), .val (.int (p1 &&& (3 : Int32))), .val (.ref b_1), .val (.int (6 : Int32)), .val (.ref b_301), .val (.ref b_329), .val (.int i_356), .val (.int z13), .val (.int z14), .unset] []))
        refine own_via (fun _ => XS.iload X_354.here hx rfl (hb hby at_491) rfl) ?_
        show own_Go p e below _ (T_354.setTop (mkF m 493 #[.val (.int p1), .val (.int p2), .val (.long q3), .second, .val (.int p4), .val (.int p5), .val (.int p6), .val (.int (p1 &&& (3 : Int32))), .val (.ref b_1), .val (.int (6 : Int32)), .val (.ref b_301), .val (.ref b_329), .val (.int i_356), .val (.int z13), .val (.int z14), .unset] [(.int z13)]))
        obtain ⟨z15, ez15⟩ : ∃ z : Int32, z = (if z13 = (0 : Int32) then (if z14 = (0 : Int32) then (1 : Int32) else (0 : Int32)) else (0 : Int32)) := ⟨_, rfl⟩
        refine own_seq (B := T_354.setTop (mkF m 506 #[.val (.int p1), .val (.int p2), .val (.long q3), .second, .val (.int p4), .val (.int p5), .val (.int p6), .val (.int (p1 &&& (3 : Int32))), .val (.ref b_1), .val (.int (6 : Int32)), .val (.ref b_301), .val (.ref b_329), .val (.int i_356), .val (.int z13), .val (.int z14), .unset] [(.int z15)])) (fun kz => ?_) ?_
        · by_cases hv_357 : z13 = (0 : Int32)
          · refine own_via (fun _ => XS.ifNo X_354.here hx rfl (hb hby at_493) rfl ((if0 _ _).trans (teq (hv_357 : z13 = (0 : Int32))).2)) ?_
            show own_Go p e below _ (T_354.setTop (mkF m 496 #[.val (.int p1), .val (.int p2), .val (.long q3), .second, .val (.int p4), .val (.int p5), .val (.int p6), .val (.int (p1 &&& (3 : Int32))), .val (.ref b_1), .val (.int (6 : Int32)), .val (.ref b_301), .val (.ref b_329), .val (.int i_356), .val (.int z13), .val (.int z14), .unset] []))
            refine own_via (fun _ => XS.iload X_354.here hx rfl (hb hby at_496) rfl) ?_
            show own_Go p e below _ (T_354.setTop (mkF m 498 #[.val (.int p1), .val (.int p2), .val (.long q3), .second, .val (.int p4), .val (.int p5), .val (.int p6), .val (.int (p1 &&& (3 : Int32))), .val (.ref b_1), .val (.int (6 : Int32)), .val (.ref b_301), .val (.ref b_329), .val (.int i_356), .val (.int z13), .val (.int z14), .unset] [(.int z14)]))
            by_cases hv_358 : z14 = (0 : Int32)
            · refine own_via (fun _ => XS.ifNo X_354.here hx rfl (hb hby at_498) rfl ((if0 _ _).trans (teq (hv_358 : z14 = (0 : Int32))).2)) ?_
              show own_Go p e below _ (T_354.setTop (mkF m 501 #[.val (.int p1), .val (.int p2), .val (.long q3), .second, .val (.int p4), .val (.int p5), .val (.int p6), .val (.int (p1 &&& (3 : Int32))), .val (.ref b_1), .val (.int (6 : Int32)), .val (.ref b_301), .val (.ref b_329), .val (.int i_356), .val (.int z13), .val (.int z14), .unset] []))
              refine own_via (fun _ => XS.iconst X_354.here hx rfl (hb hby at_501)) ?_
              show own_Go p e below _ (T_354.setTop (mkF m 502 #[.val (.int p1), .val (.int p2), .val (.long q3), .second, .val (.int p4), .val (.int p5), .val (.int p6), .val (.int (p1 &&& (3 : Int32))), .val (.ref b_1), .val (.int (6 : Int32)), .val (.ref b_301), .val (.ref b_329), .val (.int i_356), .val (.int z13), .val (.int z14), .unset] [(.int (1 : Int32))]))
              refine own_via (fun _ => XS.goto X_354.here hx rfl (pc0 := 502) (pc' := 506) rfl (hb hby at_502) (by decide) (by decide)) ?_
              show own_Go p e below _ (T_354.setTop (mkF m 506 #[.val (.int p1), .val (.int p2), .val (.long q3), .second, .val (.int p4), .val (.int p5), .val (.int p6), .val (.int (p1 &&& (3 : Int32))), .val (.ref b_1), .val (.int (6 : Int32)), .val (.ref b_301), .val (.ref b_329), .val (.int i_356), .val (.int z13), .val (.int z14), .unset] [(.int (1 : Int32))]))
              rw [if_pos hv_357] at ez15
              rw [if_pos hv_358] at ez15
              subst ez15
              exact kz
            · refine own_via (fun _ => XS.ifYes X_354.here hx rfl (pc0 := 498) (pc' := 505) rfl (hb hby at_498) rfl ((if0 _ _).trans (feq (hv_358 : ¬ (z14 = (0 : Int32)))).2) (by decide) (by decide)) ?_
              show own_Go p e below _ (T_354.setTop (mkF m 505 #[.val (.int p1), .val (.int p2), .val (.long q3), .second, .val (.int p4), .val (.int p5), .val (.int p6), .val (.int (p1 &&& (3 : Int32))), .val (.ref b_1), .val (.int (6 : Int32)), .val (.ref b_301), .val (.ref b_329), .val (.int i_356), .val (.int z13), .val (.int z14), .unset] []))
              refine own_via (fun _ => XS.iconst X_354.here hx rfl (hb hby at_505)) ?_
              show own_Go p e below _ (T_354.setTop (mkF m 506 #[.val (.int p1), .val (.int p2), .val (.long q3), .second, .val (.int p4), .val (.int p5), .val (.int p6), .val (.int (p1 &&& (3 : Int32))), .val (.ref b_1), .val (.int (6 : Int32)), .val (.ref b_301), .val (.ref b_329), .val (.int i_356), .val (.int z13), .val (.int z14), .unset] [(.int (0 : Int32))]))
              rw [if_pos hv_357] at ez15
              rw [if_neg hv_358] at ez15
              subst ez15
              exact kz
          · refine own_via (fun _ => XS.ifYes X_354.here hx rfl (pc0 := 493) (pc' := 505) rfl (hb hby at_493) rfl ((if0 _ _).trans (feq (hv_357 : ¬ (z13 = (0 : Int32)))).2) (by decide) (by decide)) ?_
            show own_Go p e below _ (T_354.setTop (mkF m 505 #[.val (.int p1), .val (.int p2), .val (.long q3), .second, .val (.int p4), .val (.int p5), .val (.int p6), .val (.int (p1 &&& (3 : Int32))), .val (.ref b_1), .val (.int (6 : Int32)), .val (.ref b_301), .val (.ref b_329), .val (.int i_356), .val (.int z13), .val (.int z14), .unset] []))
            refine own_via (fun _ => XS.iconst X_354.here hx rfl (hb hby at_505)) ?_
            show own_Go p e below _ (T_354.setTop (mkF m 506 #[.val (.int p1), .val (.int p2), .val (.long q3), .second, .val (.int p4), .val (.int p5), .val (.int p6), .val (.int (p1 &&& (3 : Int32))), .val (.ref b_1), .val (.int (6 : Int32)), .val (.ref b_301), .val (.ref b_329), .val (.int i_356), .val (.int z13), .val (.int z14), .unset] [(.int (0 : Int32))]))
            rw [if_neg hv_357] at ez15
            subst ez15
            exact kz
        show own_Go p e below _ (T_354.setTop (mkF m 506 #[.val (.int p1), .val (.int p2), .val (.long q3), .second, .val (.int p4), .val (.int p5), .val (.int p6), .val (.int (p1 &&& (3 : Int32))), .val (.ref b_1), .val (.int (6 : Int32)), .val (.ref b_301), .val (.ref b_329), .val (.int i_356), .val (.int z13), .val (.int z14), .unset] [(.int z15)]))
        refine own_via (fun _ => XS.istore X_354.here hx rfl (hb hby at_506) rfl (l' := #[.val (.int p1), .val (.int p2), .val (.long q3), .second, .val (.int p4), .val (.int p5), .val (.int p6), .val (.int (p1 &&& (3 : Int32))), .val (.ref b_1), .val (.int (6 : Int32)), .val (.ref b_301), .val (.ref b_329), .val (.int i_356), .val (.int z13), .val (.int z14), .val (.int z15)]) rfl) ?_
        show own_Go p e below _ (T_354.setTop (mkF m 508 #[.val (.int p1), .val (.int p2), .val (.long q3), .second, .val (.int p4), .val (.int p5), .val (.int p6), .val (.int (p1 &&& (3 : Int32))), .val (.ref b_1), .val (.int (6 : Int32)), .val (.ref b_301), .val (.ref b_329), .val (.int i_356), .val (.int z13), .val (.int z14), .val (.int z15)] []))
        refine own_via (fun _ => XS.iload X_354.here hx rfl (hb hby at_508) rfl) ?_
        show own_Go p e below _ (T_354.setTop (mkF m 510 #[.val (.int p1), .val (.int p2), .val (.long q3), .second, .val (.int p4), .val (.int p5), .val (.int p6), .val (.int (p1 &&& (3 : Int32))), .val (.ref b_1), .val (.int (6 : Int32)), .val (.ref b_301), .val (.ref b_329), .val (.int i_356), .val (.int z13), .val (.int z14), .val (.int z15)] [(.int i_356)]))
        refine own_via (fun _ => XS.iload X_354.here hx rfl (hb hby at_510) rfl) ?_
        show own_Go p e below _ (T_354.setTop (mkF m 512 #[.val (.int p1), .val (.int p2), .val (.long q3), .second, .val (.int p4), .val (.int p5), .val (.int p6), .val (.int (p1 &&& (3 : Int32))), .val (.ref b_1), .val (.int (6 : Int32)), .val (.ref b_301), .val (.ref b_329), .val (.int i_356), .val (.int z13), .val (.int z14), .val (.int z15)] [(.int z15), (.int i_356)]))
        refine own_via (fun _ => XS.icmpNo X_354.here hx rfl (hb hby at_512) rfl (teq (own_fin q_354_0 (own_no (by simp) ez13) (own_no (by simp) ez14) ez15 : i_356 = z15)).2) ?_
        show own_Go p e below _ (T_354.setTop (mkF m 515 #[.val (.int p1), .val (.int p2), .val (.long q3), .second, .val (.int p4), .val (.int p5), .val (.int p6), .val (.int (p1 &&& (3 : Int32))), .val (.ref b_1), .val (.int (6 : Int32)), .val (.ref b_301), .val (.ref b_329), .val (.int i_356), .val (.int z13), .val (.int z14), .val (.int z15)] []))
        refine own_via (fun _ => XS.iconst X_354.here hx rfl (hb hby at_515)) ?_
        show own_Go p e below _ (T_354.setTop (mkF m 516 #[.val (.int p1), .val (.int p2), .val (.long q3), .second, .val (.int p4), .val (.int p5), .val (.int p6), .val (.int (p1 &&& (3 : Int32))), .val (.ref b_1), .val (.int (6 : Int32)), .val (.ref b_301), .val (.ref b_329), .val (.int i_356), .val (.int z13), .val (.int z14), .val (.int z15)] [(.int (1 : Int32))]))
        refine own_via (fun _ => XS.goto X_354.here hx rfl (pc0 := 516) (pc' := 520) rfl (hb hby at_516) (by decide) (by decide)) ?_
        show own_Go p e below _ (T_354.setTop (mkF m 520 #[.val (.int p1), .val (.int p2), .val (.long q3), .second, .val (.int p4), .val (.int p5), .val (.int p6), .val (.int (p1 &&& (3 : Int32))), .val (.ref b_1), .val (.int (6 : Int32)), .val (.ref b_301), .val (.ref b_329), .val (.int i_356), .val (.int z13), .val (.int z14), .val (.int z15)] [(.int (1 : Int32))]))
        have K_359 : Keep h0 T_354.heap [] := Keep.trans (ws := []) K_353 K_354q all0
        exact own_retvW X_354 hS_354 (Nat.le_refl _) Bd.notSynchronized hx Bd.returns rfl (Or.inl ⟨rfl, (by simp), _, rfl⟩) (hb hby at_520) (by decide) (by decide) ⟨rfl, N_354, K_359⟩
      · show own_Go p e below _ (T_36.setTop (mkF m 228 #[.val (.int p1), .val (.int p2), .val (.long q3), .second, .val (.int p4), .val (.int p5), .val (.int p6), .val (.int (p1 &&& (3 : Int32))), .val (.ref b_1), .val (.int (7 : Int32)), .unset, .unset, .unset, .unset, .unset, .unset] []))
        refine own_via (fun _ => XS.iload X_39.here hx rfl (hb hby at_228) rfl) ?_
        show own_Go p e below _ (T_36.setTop (mkF m 230 #[.val (.int p1), .val (.int p2), .val (.long q3), .second, .val (.int p4), .val (.int p5), .val (.int p6), .val (.int (p1 &&& (3 : Int32))), .val (.ref b_1), .val (.int (7 : Int32)), .unset, .unset, .unset, .unset, .unset, .unset] [(.int (7 : Int32))]))
        refine own_via (fun _ => XS.bipush X_39.here hx rfl (hb hby at_230)) ?_
        show own_Go p e below _ (T_36.setTop (mkF m 232 #[.val (.int p1), .val (.int p2), .val (.long q3), .second, .val (.int p4), .val (.int p5), .val (.int p6), .val (.int (p1 &&& (3 : Int32))), .val (.ref b_1), .val (.int (7 : Int32)), .unset, .unset, .unset, .unset, .unset, .unset] [(.int (7 : Int32)), (.int (7 : Int32))]))
        refine own_via (fun _ => XS.icmpYes X_39.here hx rfl (pc0 := 232) (pc' := 239) rfl (hb hby at_232) rfl (flt ((by decide) : ¬ ((7 : Int32) < (7 : Int32)))).2.2.2 (by decide) (by decide)) ?_
        show own_Go p e below _ (T_36.setTop (mkF m 239 #[.val (.int p1), .val (.int p2), .val (.long q3), .second, .val (.int p4), .val (.int p5), .val (.int p6), .val (.int (p1 &&& (3 : Int32))), .val (.ref b_1), .val (.int (7 : Int32)), .unset, .unset, .unset, .unset, .unset, .unset] []))
        refine own_via (fun _ => XS.iload X_39.here hx rfl (hb hby at_239) rfl) ?_
        show own_Go p e below _ (T_36.setTop (mkF m 241 #[.val (.int p1), .val (.int p2), .val (.long q3), .second, .val (.int p4), .val (.int p5), .val (.int p6), .val (.int (p1 &&& (3 : Int32))), .val (.ref b_1), .val (.int (7 : Int32)), .unset, .unset, .unset, .unset, .unset, .unset] [(.int (7 : Int32))]))
        obtain ⟨T_360, h_360, k_360, X_360, e_360, E_360, A_360, st_360⟩ := newP X_39 hx hZ (own_w hw 0 rfl) e_39 (g := (mkF m 241 #[.val (.int p1), .val (.int p2), .val (.long q3), .second, .val (.int p4), .val (.int p5), .val (.int p6), .val (.int (p1 &&& (3 : Int32))), .val (.ref b_1), .val (.int (7 : Int32)), .unset, .unset, .unset, .unset, .unset, .unset] [(.int (7 : Int32))])) rfl (hb hby at_241) rfl (by decide) (cap := 7) (by decide) (by decide) (by decide) (by decide)
        obtain ⟨b_360, g_360⟩ : ∃ z, z = h_38.size := ⟨_, rfl⟩
        rw [← g_360] at A_360 st_360
        have V_360 : Arv Z h_360 b_360 k_360 .char (7 : Int32) [(.int (0 : Int32)), (.int (0 : Int32)), (.int (0 : Int32)), (.int (0 : Int32)), (.int (0 : Int32)), (.int (0 : Int32)), (.int (0 : Int32))] (.int (0 : Int32)) := (Arv.new A_360 (by decide)).pad (pad_rep [] (.int (0 : Int32)) 7)
        refine own_via st_360 ?_
        show own_Go p e below _ (T_360.setTop (mkF m 243 #[.val (.int p1), .val (.int p2), .val (.long q3), .second, .val (.int p4), .val (.int p5), .val (.int p6), .val (.int (p1 &&& (3 : Int32))), .val (.ref b_1), .val (.int (7 : Int32)), .unset, .unset, .unset, .unset, .unset, .unset] [(.ref b_360)]))
        refine own_via (fun _ => XS.astore X_360.here hx rfl (hb hby at_243) rfl rfl (l' := #[.val (.int p1), .val (.int p2), .val (.long q3), .second, .val (.int p4), .val (.int p5), .val (.int p6), .val (.int (p1 &&& (3 : Int32))), .val (.ref b_1), .val (.int (7 : Int32)), .val (.ref b_360), .unset, .unset, .unset, .unset, .unset]) rfl) ?_
        show own_Go p e below _ (T_360.setTop (mkF m 245 #[.val (.int p1), .val (.int p2), .val (.long q3), .second, .val (.int p4), .val (.int p5), .val (.int p6), .val (.int (p1 &&& (3 : Int32))), .val (.ref b_1), .val (.int (7 : Int32)), .val (.ref b_360), .unset, .unset, .unset, .unset, .unset] []))
        refine own_via (fun _ => XS.iload X_360.here hx rfl (hb hby at_245) rfl) ?_
        show own_Go p e below _ (T_360.setTop (mkF m 247 #[.val (.int p1), .val (.int p2), .val (.long q3), .second, .val (.int p4), .val (.int p5), .val (.int p6), .val (.int (p1 &&& (3 : Int32))), .val (.ref b_1), .val (.int (7 : Int32)), .val (.ref b_360), .unset, .unset, .unset, .unset, .unset] [(.int (7 : Int32))]))
        refine own_via (fun _ => XS.ifNo X_360.here hx rfl (hb hby at_247) rfl ((if0 _ _).trans (tlt ((by decide) : (0 : Int32) < (7 : Int32))).2.2.2)) ?_
        show own_Go p e below _ (T_360.setTop (mkF m 250 #[.val (.int p1), .val (.int p2), .val (.long q3), .second, .val (.int p4), .val (.int p5), .val (.int p6), .val (.int (p1 &&& (3 : Int32))), .val (.ref b_1), .val (.int (7 : Int32)), .val (.ref b_360), .unset, .unset, .unset, .unset, .unset] []))
        refine own_via (fun _ => XS.aload X_360.here hx rfl (hb hby at_250) rfl rfl) ?_
        show own_Go p e below _ (T_360.setTop (mkF m 252 #[.val (.int p1), .val (.int p2), .val (.long q3), .second, .val (.int p4), .val (.int p5), .val (.int p6), .val (.int (p1 &&& (3 : Int32))), .val (.ref b_1), .val (.int (7 : Int32)), .val (.ref b_360), .unset, .unset, .unset, .unset, .unset] [(.ref b_360)]))
        refine own_via (fun _ => XS.iconst X_360.here hx rfl (hb hby at_252)) ?_
        show own_Go p e below _ (T_360.setTop (mkF m 253 #[.val (.int p1), .val (.int p2), .val (.long q3), .second, .val (.int p4), .val (.int p5), .val (.int p6), .val (.int (p1 &&& (3 : Int32))), .val (.ref b_1), .val (.int (7 : Int32)), .val (.ref b_360), .unset, .unset, .unset, .unset, .unset] [(.int (0 : Int32)), (.ref b_360)]))
        refine own_via (fun _ => XS.aload X_360.here hx rfl (hb hby at_253) rfl rfl) ?_
        show own_Go p e below _ (T_360.setTop (mkF m 255 #[.val (.int p1), .val (.int p2), .val (.long q3), .second, .val (.int p4), .val (.int p5), .val (.int p6), .val (.int (p1 &&& (3 : Int32))), .val (.ref b_1), .val (.int (7 : Int32)), .val (.ref b_360), .unset, .unset, .unset, .unset, .unset] [(.ref b_1), (.int (0 : Int32)), (.ref b_360)]))
        refine own_via (fun _ => XS.iconst X_360.here hx rfl (hb hby at_255)) ?_
        show own_Go p e below _ (T_360.setTop (mkF m 256 #[.val (.int p1), .val (.int p2), .val (.long q3), .second, .val (.int p4), .val (.int p5), .val (.int p6), .val (.int (p1 &&& (3 : Int32))), .val (.ref b_1), .val (.int (7 : Int32)), .val (.ref b_360), .unset, .unset, .unset, .unset, .unset] [(.int (0 : Int32)), (.ref b_1), (.int (0 : Int32)), (.ref b_360)]))
        have K_361 : Keep h_38 h_360 [] := (Keep.refl h_38 []).ext E_360
        obtain ⟨cl_362, Ar_362, q_362, S_362, M_362, H_362, G_362⟩ := (id (VE.keep K_361 nin0))
        have in_362 : ¬ ((0 : Int32) < 0 ∨ cl_362.slots.size ≤ ((0 : Int32)).toNatClampNeg) := inb_of S_362 ⟨by decide, by decide⟩
        refine own_via (X_360.caload hx (j := (0 : Int32)) (v := (.int e0)) (by rw [e_360]; exact Ar_362.1) (State.isArrayOf_alike hZ.alike Ar_362.2.1) Ar_362.2.2 in_362 (Has.at H_362 in_362 rfl) (g := (mkF m 256 #[.val (.int p1), .val (.int p2), .val (.long q3), .second, .val (.int p4), .val (.int p5), .val (.int p6), .val (.int (p1 &&& (3 : Int32))), .val (.ref b_1), .val (.int (7 : Int32)), .val (.ref b_360), .unset, .unset, .unset, .unset, .unset] [(.int (0 : Int32)), (.ref b_1), (.int (0 : Int32)), (.ref b_360)])) rfl rfl (hb hby at_256)) ?_
        show own_Go p e below _ (T_360.setTop (mkF m 257 #[.val (.int p1), .val (.int p2), .val (.long q3), .second, .val (.int p4), .val (.int p5), .val (.int p6), .val (.int (p1 &&& (3 : Int32))), .val (.ref b_1), .val (.int (7 : Int32)), .val (.ref b_360), .unset, .unset, .unset, .unset, .unset] [(.int e0), (.int (0 : Int32)), (.ref b_360)]))
        obtain ⟨cl_363, Ar_363, q_363, S_363, M_363, H_363, G_363⟩ := (id V_360)
        obtain ⟨T_363, h_363, X_363, e_363, W_363, st_363⟩ := stC X_360 hx hZ e_360 Ar_363 (j := (0 : Int32)) (inb_of S_363 ⟨by decide, by decide⟩) (g := (mkF m 257 #[.val (.int p1), .val (.int p2), .val (.long q3), .second, .val (.int p4), .val (.int p5), .val (.int p6), .val (.int (p1 &&& (3 : Int32))), .val (.ref b_1), .val (.int (7 : Int32)), .val (.ref b_360), .unset, .unset, .unset, .unset, .unset] [(.int e0), (.int (0 : Int32)), (.ref b_360)])) rfl rfl (hb hby at_257)
        have V_363 : Arv Z h_363 b_360 k_360 .char (7 : Int32) [(.int (nar .char e0)), (.int (0 : Int32)), (.int (0 : Int32)), (.int (0 : Int32)), (.int (0 : Int32)), (.int (0 : Int32)), (.int (0 : Int32))] (.int (0 : Int32)) := Arv.set Ar_363 q_363 S_363 M_363 H_363 G_363 (fits_nar_char _) W_363 0 rfl (Nat.le_of_ble_eq_true rfl)
        have K_364 : Keep h0 h_28 [] := Keep.wr (ws := []) K_26 W_28 (Or.inr (Nat.le_of_eq g_1.symm))
        have K_365 : Keep h0 h_33 [] := Keep.trans (ws := []) K_364 K_34 (allS (Or.inr (Nat.le_of_eq g_1.symm)) all0)
        have K_366 : Keep h0 h_38 [] := Keep.trans (ws := []) K_365 K_39 (allS (Or.inr (Nat.le_of_eq g_1.symm)) all0)
        have N_363 := Fr.snoc X_363 N_39 (Nat.le_trans Z0 (Nat.le_trans K_366.1 (Nat.le_of_eq g_360.symm)))
        refine own_via st_363 ?_
        show own_Go p e below _ (T_363.setTop (mkF m 258 #[.val (.int p1), .val (.int p2), .val (.long q3), .second, .val (.int p4), .val (.int p5), .val (.int p6), .val (.int (p1 &&& (3 : Int32))), .val (.ref b_1), .val (.int (7 : Int32)), .val (.ref b_360), .unset, .unset, .unset, .unset, .unset] []))
        have V_367 : Arv Z h_363 b_360 k_360 .char (7 : Int32) [(.int e0), (.int (0 : Int32)), (.int (0 : Int32)), (.int (0 : Int32)), (.int (0 : Int32)), (.int (0 : Int32)), (.int (0 : Int32))] (.int (0 : Int32)) := by have q := V_363; rwa [own_nar he0] at q
        refine own_via (fun _ => XS.iload X_363.here hx rfl (hb hby at_258) rfl) ?_
        show own_Go p e below _ (T_363.setTop (mkF m 260 #[.val (.int p1), .val (.int p2), .val (.long q3), .second, .val (.int p4), .val (.int p5), .val (.int p6), .val (.int (p1 &&& (3 : Int32))), .val (.ref b_1), .val (.int (7 : Int32)), .val (.ref b_360), .unset, .unset, .unset, .unset, .unset] [(.int (7 : Int32))]))
        refine own_via (fun _ => XS.iconst X_363.here hx rfl (hb hby at_260)) ?_
        show own_Go p e below _ (T_363.setTop (mkF m 261 #[.val (.int p1), .val (.int p2), .val (.long q3), .second, .val (.int p4), .val (.int p5), .val (.int p6), .val (.int (p1 &&& (3 : Int32))), .val (.ref b_1), .val (.int (7 : Int32)), .val (.ref b_360), .unset, .unset, .unset, .unset, .unset] [(.int (1 : Int32)), (.int (7 : Int32))]))
        refine own_via (fun _ => XS.icmpNo X_363.here hx rfl (hb hby at_261) rfl (tlt ((by decide) : (1 : Int32) < (7 : Int32))).2.2.2) ?_
        show own_Go p e below _ (T_363.setTop (mkF m 264 #[.val (.int p1), .val (.int p2), .val (.long q3), .second, .val (.int p4), .val (.int p5), .val (.int p6), .val (.int (p1 &&& (3 : Int32))), .val (.ref b_1), .val (.int (7 : Int32)), .val (.ref b_360), .unset, .unset, .unset, .unset, .unset] []))
        refine own_via (fun _ => XS.aload X_363.here hx rfl (hb hby at_264) rfl rfl) ?_
        show own_Go p e below _ (T_363.setTop (mkF m 266 #[.val (.int p1), .val (.int p2), .val (.long q3), .second, .val (.int p4), .val (.int p5), .val (.int p6), .val (.int (p1 &&& (3 : Int32))), .val (.ref b_1), .val (.int (7 : Int32)), .val (.ref b_360), .unset, .unset, .unset, .unset, .unset] [(.ref b_360)]))
        refine own_via (fun _ => XS.iconst X_363.here hx rfl (hb hby at_266)) ?_
        show own_Go p e below _ (T_363.setTop (mkF m 267 #[.val (.int p1), .val (.int p2), .val (.long q3), .second, .val (.int p4), .val (.int p5), .val (.int p6), .val (.int (p1 &&& (3 : Int32))), .val (.ref b_1), .val (.int (7 : Int32)), .val (.ref b_360), .unset, .unset, .unset, .unset, .unset] [(.int (1 : Int32)), (.ref b_360)]))
        refine own_via (fun _ => XS.aload X_363.here hx rfl (hb hby at_267) rfl rfl) ?_
        show own_Go p e below _ (T_363.setTop (mkF m 269 #[.val (.int p1), .val (.int p2), .val (.long q3), .second, .val (.int p4), .val (.int p5), .val (.int p6), .val (.int (p1 &&& (3 : Int32))), .val (.ref b_1), .val (.int (7 : Int32)), .val (.ref b_360), .unset, .unset, .unset, .unset, .unset] [(.ref b_1), (.int (1 : Int32)), (.ref b_360)]))
        refine own_via (fun _ => XS.iconst X_363.here hx rfl (hb hby at_269)) ?_
        show own_Go p e below _ (T_363.setTop (mkF m 270 #[.val (.int p1), .val (.int p2), .val (.long q3), .second, .val (.int p4), .val (.int p5), .val (.int p6), .val (.int (p1 &&& (3 : Int32))), .val (.ref b_1), .val (.int (7 : Int32)), .val (.ref b_360), .unset, .unset, .unset, .unset, .unset] [(.int (1 : Int32)), (.ref b_1), (.int (1 : Int32)), (.ref b_360)]))
        have K_368 : Keep h_38 h_363 [] := Keep.wr (ws := []) K_361 W_363 (Or.inr (Nat.le_of_eq g_360.symm))
        obtain ⟨cl_369, Ar_369, q_369, S_369, M_369, H_369, G_369⟩ := (id (VE.keep K_368 nin0))
        have in_369 : ¬ ((1 : Int32) < 0 ∨ cl_369.slots.size ≤ ((1 : Int32)).toNatClampNeg) := inb_of S_369 ⟨by decide, by decide⟩
        refine own_via (X_363.caload hx (j := (1 : Int32)) (v := (.int e1)) (by rw [e_363]; exact Ar_369.1) (State.isArrayOf_alike hZ.alike Ar_369.2.1) Ar_369.2.2 in_369 (Has.at H_369 in_369 rfl) (g := (mkF m 270 #[.val (.int p1), .val (.int p2), .val (.long q3), .second, .val (.int p4), .val (.int p5), .val (.int p6), .val (.int (p1 &&& (3 : Int32))), .val (.ref b_1), .val (.int (7 : Int32)), .val (.ref b_360), .unset, .unset, .unset, .unset, .unset] [(.int (1 : Int32)), (.ref b_1), (.int (1 : Int32)), (.ref b_360)])) rfl rfl (hb hby at_270)) ?_
        show own_Go p e below _ (T_363.setTop (mkF m 271 #[.val (.int p1), .val (.int p2), .val (.long q3), .second, .val (.int p4), .val (.int p5), .val (.int p6), .val (.int (p1 &&& (3 : Int32))), .val (.ref b_1), .val (.int (7 : Int32)), .val (.ref b_360), .unset, .unset, .unset, .unset, .unset] [(.int e1), (.int (1 : Int32)), (.ref b_360)]))
        obtain ⟨cl_370, Ar_370, q_370, S_370, M_370, H_370, G_370⟩ := (id V_367)
        obtain ⟨T_370, h_370, X_370, e_370, W_370, st_370⟩ := stC X_363 hx hZ e_363 Ar_370 (j := (1 : Int32)) (inb_of S_370 ⟨by decide, by decide⟩) (g := (mkF m 271 #[.val (.int p1), .val (.int p2), .val (.long q3), .second, .val (.int p4), .val (.int p5), .val (.int p6), .val (.int (p1 &&& (3 : Int32))), .val (.ref b_1), .val (.int (7 : Int32)), .val (.ref b_360), .unset, .unset, .unset, .unset, .unset] [(.int e1), (.int (1 : Int32)), (.ref b_360)])) rfl rfl (hb hby at_271)
        have V_370 : Arv Z h_370 b_360 k_360 .char (7 : Int32) [(.int e0), (.int (nar .char e1)), (.int (0 : Int32)), (.int (0 : Int32)), (.int (0 : Int32)), (.int (0 : Int32)), (.int (0 : Int32))] (.int (0 : Int32)) := Arv.set Ar_370 q_370 S_370 M_370 H_370 G_370 (fits_nar_char _) W_370 1 rfl (Nat.le_of_ble_eq_true rfl)
        have N_370 := Fr.snoc X_370 N_363 (Nat.le_trans Z0 (Nat.le_trans K_366.1 (Nat.le_of_eq g_360.symm)))
        refine own_via st_370 ?_
        show own_Go p e below _ (T_370.setTop (mkF m 272 #[.val (.int p1), .val (.int p2), .val (.long q3), .second, .val (.int p4), .val (.int p5), .val (.int p6), .val (.int (p1 &&& (3 : Int32))), .val (.ref b_1), .val (.int (7 : Int32)), .val (.ref b_360), .unset, .unset, .unset, .unset, .unset] []))
        have V_371 : Arv Z h_370 b_360 k_360 .char (7 : Int32) [(.int e0), (.int e1), (.int (0 : Int32)), (.int (0 : Int32)), (.int (0 : Int32)), (.int (0 : Int32)), (.int (0 : Int32))] (.int (0 : Int32)) := by have q := V_370; rwa [own_nar he1] at q
        refine own_via (fun _ => XS.iload X_370.here hx rfl (hb hby at_272) rfl) ?_
        show own_Go p e below _ (T_370.setTop (mkF m 274 #[.val (.int p1), .val (.int p2), .val (.long q3), .second, .val (.int p4), .val (.int p5), .val (.int p6), .val (.int (p1 &&& (3 : Int32))), .val (.ref b_1), .val (.int (7 : Int32)), .val (.ref b_360), .unset, .unset, .unset, .unset, .unset] [(.int (7 : Int32))]))
        refine own_via (fun _ => XS.iconst X_370.here hx rfl (hb hby at_274)) ?_
        show own_Go p e below _ (T_370.setTop (mkF m 275 #[.val (.int p1), .val (.int p2), .val (.long q3), .second, .val (.int p4), .val (.int p5), .val (.int p6), .val (.int (p1 &&& (3 : Int32))), .val (.ref b_1), .val (.int (7 : Int32)), .val (.ref b_360), .unset, .unset, .unset, .unset, .unset] [(.int (2 : Int32)), (.int (7 : Int32))]))
        refine own_via (fun _ => XS.icmpNo X_370.here hx rfl (hb hby at_275) rfl (tlt ((by decide) : (2 : Int32) < (7 : Int32))).2.2.2) ?_
        show own_Go p e below _ (T_370.setTop (mkF m 278 #[.val (.int p1), .val (.int p2), .val (.long q3), .second, .val (.int p4), .val (.int p5), .val (.int p6), .val (.int (p1 &&& (3 : Int32))), .val (.ref b_1), .val (.int (7 : Int32)), .val (.ref b_360), .unset, .unset, .unset, .unset, .unset] []))
        refine own_via (fun _ => XS.aload X_370.here hx rfl (hb hby at_278) rfl rfl) ?_
        show own_Go p e below _ (T_370.setTop (mkF m 280 #[.val (.int p1), .val (.int p2), .val (.long q3), .second, .val (.int p4), .val (.int p5), .val (.int p6), .val (.int (p1 &&& (3 : Int32))), .val (.ref b_1), .val (.int (7 : Int32)), .val (.ref b_360), .unset, .unset, .unset, .unset, .unset] [(.ref b_360)]))
        refine own_via (fun _ => XS.iconst X_370.here hx rfl (hb hby at_280)) ?_
        show own_Go p e below _ (T_370.setTop (mkF m 281 #[.val (.int p1), .val (.int p2), .val (.long q3), .second, .val (.int p4), .val (.int p5), .val (.int p6), .val (.int (p1 &&& (3 : Int32))), .val (.ref b_1), .val (.int (7 : Int32)), .val (.ref b_360), .unset, .unset, .unset, .unset, .unset] [(.int (2 : Int32)), (.ref b_360)]))
        refine own_via (fun _ => XS.aload X_370.here hx rfl (hb hby at_281) rfl rfl) ?_
        show own_Go p e below _ (T_370.setTop (mkF m 283 #[.val (.int p1), .val (.int p2), .val (.long q3), .second, .val (.int p4), .val (.int p5), .val (.int p6), .val (.int (p1 &&& (3 : Int32))), .val (.ref b_1), .val (.int (7 : Int32)), .val (.ref b_360), .unset, .unset, .unset, .unset, .unset] [(.ref b_1), (.int (2 : Int32)), (.ref b_360)]))
        refine own_via (fun _ => XS.iconst X_370.here hx rfl (hb hby at_283)) ?_
        show own_Go p e below _ (T_370.setTop (mkF m 284 #[.val (.int p1), .val (.int p2), .val (.long q3), .second, .val (.int p4), .val (.int p5), .val (.int p6), .val (.int (p1 &&& (3 : Int32))), .val (.ref b_1), .val (.int (7 : Int32)), .val (.ref b_360), .unset, .unset, .unset, .unset, .unset] [(.int (2 : Int32)), (.ref b_1), (.int (2 : Int32)), (.ref b_360)]))
        have K_372 : Keep h_38 h_370 [] := Keep.wr (ws := []) K_368 W_370 (Or.inr (Nat.le_of_eq g_360.symm))
        obtain ⟨cl_373, Ar_373, q_373, S_373, M_373, H_373, G_373⟩ := (id (VE.keep K_372 nin0))
        have in_373 : ¬ ((2 : Int32) < 0 ∨ cl_373.slots.size ≤ ((2 : Int32)).toNatClampNeg) := inb_of S_373 ⟨by decide, by decide⟩
        refine own_via (X_370.caload hx (j := (2 : Int32)) (v := (.int e2)) (by rw [e_370]; exact Ar_373.1) (State.isArrayOf_alike hZ.alike Ar_373.2.1) Ar_373.2.2 in_373 (Has.at H_373 in_373 rfl) (g := (mkF m 284 #[.val (.int p1), .val (.int p2), .val (.long q3), .second, .val (.int p4), .val (.int p5), .val (.int p6), .val (.int (p1 &&& (3 : Int32))), .val (.ref b_1), .val (.int (7 : Int32)), .val (.ref b_360), .unset, .unset, .unset, .unset, .unset] [(.int (2 : Int32)), (.ref b_1), (.int (2 : Int32)), (.ref b_360)])) rfl rfl (hb hby at_284)) ?_
        show own_Go p e below _ (T_370.setTop (mkF m 285 #[.val (.int p1), .val (.int p2), .val (.long q3), .second, .val (.int p4), .val (.int p5), .val (.int p6), .val (.int (p1 &&& (3 : Int32))), .val (.ref b_1), .val (.int (7 : Int32)), .val (.ref b_360), .unset, .unset, .unset, .unset, .unset] [(.int e2), (.int (2 : Int32)), (.ref b_360)]))
        obtain ⟨cl_374, Ar_374, q_374, S_374, M_374, H_374, G_374⟩ := (id V_371)
        obtain ⟨T_374, h_374, X_374, e_374, W_374, st_374⟩ := stC X_370 hx hZ e_370 Ar_374 (j := (2 : Int32)) (inb_of S_374 ⟨by decide, by decide⟩) (g := (mkF m 285 #[.val (.int p1), .val (.int p2), .val (.long q3), .second, .val (.int p4), .val (.int p5), .val (.int p6), .val (.int (p1 &&& (3 : Int32))), .val (.ref b_1), .val (.int (7 : Int32)), .val (.ref b_360), .unset, .unset, .unset, .unset, .unset] [(.int e2), (.int (2 : Int32)), (.ref b_360)])) rfl rfl (hb hby at_285)
        have V_374 : Arv Z h_374 b_360 k_360 .char (7 : Int32) [(.int e0), (.int e1), (.int (nar .char e2)), (.int (0 : Int32)), (.int (0 : Int32)), (.int (0 : Int32)), (.int (0 : Int32))] (.int (0 : Int32)) := Arv.set Ar_374 q_374 S_374 M_374 H_374 G_374 (fits_nar_char _) W_374 2 rfl (Nat.le_of_ble_eq_true rfl)
        have N_374 := Fr.snoc X_374 N_370 (Nat.le_trans Z0 (Nat.le_trans K_366.1 (Nat.le_of_eq g_360.symm)))
        refine own_via st_374 ?_
        show own_Go p e below _ (T_374.setTop (mkF m 286 #[.val (.int p1), .val (.int p2), .val (.long q3), .second, .val (.int p4), .val (.int p5), .val (.int p6), .val (.int (p1 &&& (3 : Int32))), .val (.ref b_1), .val (.int (7 : Int32)), .val (.ref b_360), .unset, .unset, .unset, .unset, .unset] []))
        have V_375 : Arv Z h_374 b_360 k_360 .char (7 : Int32) [(.int e0), (.int e1), (.int e2), (.int (0 : Int32)), (.int (0 : Int32)), (.int (0 : Int32)), (.int (0 : Int32))] (.int (0 : Int32)) := by have q := V_374; rwa [own_nar he2] at q
        refine own_via (fun _ => XS.iload X_374.here hx rfl (hb hby at_286) rfl) ?_
        show own_Go p e below _ (T_374.setTop (mkF m 288 #[.val (.int p1), .val (.int p2), .val (.long q3), .second, .val (.int p4), .val (.int p5), .val (.int p6), .val (.int (p1 &&& (3 : Int32))), .val (.ref b_1), .val (.int (7 : Int32)), .val (.ref b_360), .unset, .unset, .unset, .unset, .unset] [(.int (7 : Int32))]))
        refine own_via (fun _ => XS.iconst X_374.here hx rfl (hb hby at_288)) ?_
        show own_Go p e below _ (T_374.setTop (mkF m 289 #[.val (.int p1), .val (.int p2), .val (.long q3), .second, .val (.int p4), .val (.int p5), .val (.int p6), .val (.int (p1 &&& (3 : Int32))), .val (.ref b_1), .val (.int (7 : Int32)), .val (.ref b_360), .unset, .unset, .unset, .unset, .unset] [(.int (3 : Int32)), (.int (7 : Int32))]))
        refine own_via (fun _ => XS.icmpNo X_374.here hx rfl (hb hby at_289) rfl (tlt ((by decide) : (3 : Int32) < (7 : Int32))).2.2.2) ?_
        show own_Go p e below _ (T_374.setTop (mkF m 292 #[.val (.int p1), .val (.int p2), .val (.long q3), .second, .val (.int p4), .val (.int p5), .val (.int p6), .val (.int (p1 &&& (3 : Int32))), .val (.ref b_1), .val (.int (7 : Int32)), .val (.ref b_360), .unset, .unset, .unset, .unset, .unset] []))
        refine own_via (fun _ => XS.aload X_374.here hx rfl (hb hby at_292) rfl rfl) ?_
        show own_Go p e below _ (T_374.setTop (mkF m 294 #[.val (.int p1), .val (.int p2), .val (.long q3), .second, .val (.int p4), .val (.int p5), .val (.int p6), .val (.int (p1 &&& (3 : Int32))), .val (.ref b_1), .val (.int (7 : Int32)), .val (.ref b_360), .unset, .unset, .unset, .unset, .unset] [(.ref b_360)]))
        refine own_via (fun _ => XS.iconst X_374.here hx rfl (hb hby at_294)) ?_
        show own_Go p e below _ (T_374.setTop (mkF m 295 #[.val (.int p1), .val (.int p2), .val (.long q3), .second, .val (.int p4), .val (.int p5), .val (.int p6), .val (.int (p1 &&& (3 : Int32))), .val (.ref b_1), .val (.int (7 : Int32)), .val (.ref b_360), .unset, .unset, .unset, .unset, .unset] [(.int (3 : Int32)), (.ref b_360)]))
        refine own_via (fun _ => XS.aload X_374.here hx rfl (hb hby at_295) rfl rfl) ?_
        show own_Go p e below _ (T_374.setTop (mkF m 297 #[.val (.int p1), .val (.int p2), .val (.long q3), .second, .val (.int p4), .val (.int p5), .val (.int p6), .val (.int (p1 &&& (3 : Int32))), .val (.ref b_1), .val (.int (7 : Int32)), .val (.ref b_360), .unset, .unset, .unset, .unset, .unset] [(.ref b_1), (.int (3 : Int32)), (.ref b_360)]))
        refine own_via (fun _ => XS.iconst X_374.here hx rfl (hb hby at_297)) ?_
        show own_Go p e below _ (T_374.setTop (mkF m 298 #[.val (.int p1), .val (.int p2), .val (.long q3), .second, .val (.int p4), .val (.int p5), .val (.int p6), .val (.int (p1 &&& (3 : Int32))), .val (.ref b_1), .val (.int (7 : Int32)), .val (.ref b_360), .unset, .unset, .unset, .unset, .unset] [(.int (3 : Int32)), (.ref b_1), (.int (3 : Int32)), (.ref b_360)]))
        have K_376 : Keep h_38 h_374 [] := Keep.wr (ws := []) K_372 W_374 (Or.inr (Nat.le_of_eq g_360.symm))
        obtain ⟨cl_377, Ar_377, q_377, S_377, M_377, H_377, G_377⟩ := (id (VE.keep K_376 nin0))
        have in_377 : ¬ ((3 : Int32) < 0 ∨ cl_377.slots.size ≤ ((3 : Int32)).toNatClampNeg) := inb_of S_377 ⟨by decide, by decide⟩
        refine own_via (X_374.caload hx (j := (3 : Int32)) (v := (.int e3)) (by rw [e_374]; exact Ar_377.1) (State.isArrayOf_alike hZ.alike Ar_377.2.1) Ar_377.2.2 in_377 (Has.at H_377 in_377 rfl) (g := (mkF m 298 #[.val (.int p1), .val (.int p2), .val (.long q3), .second, .val (.int p4), .val (.int p5), .val (.int p6), .val (.int (p1 &&& (3 : Int32))), .val (.ref b_1), .val (.int (7 : Int32)), .val (.ref b_360), .unset, .unset, .unset, .unset, .unset] [(.int (3 : Int32)), (.ref b_1), (.int (3 : Int32)), (.ref b_360)])) rfl rfl (hb hby at_298)) ?_
        show own_Go p e below _ (T_374.setTop (mkF m 299 #[.val (.int p1), .val (.int p2), .val (.long q3), .second, .val (.int p4), .val (.int p5), .val (.int p6), .val (.int (p1 &&& (3 : Int32))), .val (.ref b_1), .val (.int (7 : Int32)), .val (.ref b_360), .unset, .unset, .unset, .unset, .unset] [(.int e3), (.int (3 : Int32)), (.ref b_360)]))
        obtain ⟨cl_378, Ar_378, q_378, S_378, M_378, H_378, G_378⟩ := (id V_375)
        obtain ⟨T_378, h_378, X_378, e_378, W_378, st_378⟩ := stC X_374 hx hZ e_374 Ar_378 (j := (3 : Int32)) (inb_of S_378 ⟨by decide, by decide⟩) (g := (mkF m 299 #[.val (.int p1), .val (.int p2), .val (.long q3), .second, .val (.int p4), .val (.int p5), .val (.int p6), .val (.int (p1 &&& (3 : Int32))), .val (.ref b_1), .val (.int (7 : Int32)), .val (.ref b_360), .unset, .unset, .unset, .unset, .unset] [(.int e3), (.int (3 : Int32)), (.ref b_360)])) rfl rfl (hb hby at_299)
        have V_378 : Arv Z h_378 b_360 k_360 .char (7 : Int32) [(.int e0), (.int e1), (.int e2), (.int (nar .char e3)), (.int (0 : Int32)), (.int (0 : Int32)), (.int (0 : Int32))] (.int (0 : Int32)) := Arv.set Ar_378 q_378 S_378 M_378 H_378 G_378 (fits_nar_char _) W_378 3 rfl (Nat.le_of_ble_eq_true rfl)
        have N_378 := Fr.snoc X_378 N_374 (Nat.le_trans Z0 (Nat.le_trans K_366.1 (Nat.le_of_eq g_360.symm)))
        refine own_via st_378 ?_
        show own_Go p e below _ (T_378.setTop (mkF m 300 #[.val (.int p1), .val (.int p2), .val (.long q3), .second, .val (.int p4), .val (.int p5), .val (.int p6), .val (.int (p1 &&& (3 : Int32))), .val (.ref b_1), .val (.int (7 : Int32)), .val (.ref b_360), .unset, .unset, .unset, .unset, .unset] []))
        have V_379 : Arv Z h_378 b_360 k_360 .char (7 : Int32) [(.int e0), (.int e1), (.int e2), (.int e3), (.int (0 : Int32)), (.int (0 : Int32)), (.int (0 : Int32))] (.int (0 : Int32)) := by have q := V_378; rwa [own_nar he3] at q
        refine own_via (fun _ => XS.iload X_378.here hx rfl (hb hby at_300) rfl) ?_
        show own_Go p e below _ (T_378.setTop (mkF m 302 #[.val (.int p1), .val (.int p2), .val (.long q3), .second, .val (.int p4), .val (.int p5), .val (.int p6), .val (.int (p1 &&& (3 : Int32))), .val (.ref b_1), .val (.int (7 : Int32)), .val (.ref b_360), .unset, .unset, .unset, .unset, .unset] [(.int (7 : Int32))]))
        refine own_via (fun _ => XS.iconst X_378.here hx rfl (hb hby at_302)) ?_
        show own_Go p e below _ (T_378.setTop (mkF m 303 #[.val (.int p1), .val (.int p2), .val (.long q3), .second, .val (.int p4), .val (.int p5), .val (.int p6), .val (.int (p1 &&& (3 : Int32))), .val (.ref b_1), .val (.int (7 : Int32)), .val (.ref b_360), .unset, .unset, .unset, .unset, .unset] [(.int (4 : Int32)), (.int (7 : Int32))]))
        refine own_via (fun _ => XS.icmpNo X_378.here hx rfl (hb hby at_303) rfl (tlt ((by decide) : (4 : Int32) < (7 : Int32))).2.2.2) ?_
        show own_Go p e below _ (T_378.setTop (mkF m 306 #[.val (.int p1), .val (.int p2), .val (.long q3), .second, .val (.int p4), .val (.int p5), .val (.int p6), .val (.int (p1 &&& (3 : Int32))), .val (.ref b_1), .val (.int (7 : Int32)), .val (.ref b_360), .unset, .unset, .unset, .unset, .unset] []))
        refine own_via (fun _ => XS.aload X_378.here hx rfl (hb hby at_306) rfl rfl) ?_
        show own_Go p e below _ (T_378.setTop (mkF m 308 #[.val (.int p1), .val (.int p2), .val (.long q3), .second, .val (.int p4), .val (.int p5), .val (.int p6), .val (.int (p1 &&& (3 : Int32))), .val (.ref b_1), .val (.int (7 : Int32)), .val (.ref b_360), .unset, .unset, .unset, .unset, .unset] [(.ref b_360)]))
        refine own_via (fun _ => XS.iconst X_378.here hx rfl (hb hby at_308)) ?_
        show own_Go p e below _ (T_378.setTop (mkF m 309 #[.val (.int p1), .val (.int p2), .val (.long q3), .second, .val (.int p4), .val (.int p5), .val (.int p6), .val (.int (p1 &&& (3 : Int32))), .val (.ref b_1), .val (.int (7 : Int32)), .val (.ref b_360), .unset, .unset, .unset, .unset, .unset] [(.int (4 : Int32)), (.ref b_360)]))
        refine own_via (fun _ => XS.aload X_378.here hx rfl (hb hby at_309) rfl rfl) ?_
        show own_Go p e below _ (T_378.setTop (mkF m 311 #[.val (.int p1), .val (.int p2), .val (.long q3), .second, .val (.int p4), .val (.int p5), .val (.int p6), .val (.int (p1 &&& (3 : Int32))), .val (.ref b_1), .val (.int (7 : Int32)), .val (.ref b_360), .unset, .unset, .unset, .unset, .unset] [(.ref b_1), (.int (4 : Int32)), (.ref b_360)]))
        refine own_via (fun _ => XS.iconst X_378.here hx rfl (hb hby at_311)) ?_
        show own_Go p e below _ (T_378.setTop (mkF m 312 #[.val (.int p1), .val (.int p2), .val (.long q3), .second, .val (.int p4), .val (.int p5), .val (.int p6), .val (.int (p1 &&& (3 : Int32))), .val (.ref b_1), .val (.int (7 : Int32)), .val (.ref b_360), .unset, .unset, .unset, .unset, .unset] [(.int (4 : Int32)), (.ref b_1), (.int (4 : Int32)), (.ref b_360)]))
        have K_380 : Keep h_38 h_378 [] := Keep.wr (ws := []) K_376 W_378 (Or.inr (Nat.le_of_eq g_360.symm))
        obtain ⟨cl_381, Ar_381, q_381, S_381, M_381, H_381, G_381⟩ := (id (VE.keep K_380 nin0))
        have in_381 : ¬ ((4 : Int32) < 0 ∨ cl_381.slots.size ≤ ((4 : Int32)).toNatClampNeg) := inb_of S_381 ⟨by decide, by decide⟩
        refine own_via (X_378.caload hx (j := (4 : Int32)) (v := (.int e4)) (by rw [e_378]; exact Ar_381.1) (State.isArrayOf_alike hZ.alike Ar_381.2.1) Ar_381.2.2 in_381 (Has.at H_381 in_381 rfl) (g := (mkF m 312 #[.val (.int p1), .val (.int p2), .val (.long q3), .second, .val (.int p4), .val (.int p5), .val (.int p6), .val (.int (p1 &&& (3 : Int32))), .val (.ref b_1), .val (.int (7 : Int32)), .val (.ref b_360), .unset, .unset, .unset, .unset, .unset] [(.int (4 : Int32)), (.ref b_1), (.int (4 : Int32)), (.ref b_360)])) rfl rfl (hb hby at_312)) ?_
        show own_Go p e below _ (T_378.setTop (mkF m 313 #[.val (.int p1), .val (.int p2), .val (.long q3), .second, .val (.int p4), .val (.int p5), .val (.int p6), .val (.int (p1 &&& (3 : Int32))), .val (.ref b_1), .val (.int (7 : Int32)), .val (.ref b_360), .unset, .unset, .unset, .unset, .unset] [(.int e4), (.int (4 : Int32)), (.ref b_360)]))
        obtain ⟨cl_382, Ar_382, q_382, S_382, M_382, H_382, G_382⟩ := (id V_379)
        obtain ⟨T_382, h_382, X_382, e_382, W_382, st_382⟩ := stC X_378 hx hZ e_378 Ar_382 (j := (4 : Int32)) (inb_of S_382 ⟨by decide, by decide⟩) (g := (mkF m 313 #[.val (.int p1), .val (.int p2), .val (.long q3), .second, .val (.int p4), .val (.int p5), .val (.int p6), .val (.int (p1 &&& (3 : Int32))), .val (.ref b_1), .val (.int (7 : Int32)), .val (.ref b_360), .unset, .unset, .unset, .unset, .unset] [(.int e4), (.int (4 : Int32)), (.ref b_360)])) rfl rfl (hb hby at_313)
        have V_382 : Arv Z h_382 b_360 k_360 .char (7 : Int32) [(.int e0), (.int e1), (.int e2), (.int e3), (.int (nar .char e4)), (.int (0 : Int32)), (.int (0 : Int32))] (.int (0 : Int32)) := Arv.set Ar_382 q_382 S_382 M_382 H_382 G_382 (fits_nar_char _) W_382 4 rfl (Nat.le_of_ble_eq_true rfl)
        have N_382 := Fr.snoc X_382 N_378 (Nat.le_trans Z0 (Nat.le_trans K_366.1 (Nat.le_of_eq g_360.symm)))
        refine own_via st_382 ?_
        show own_Go p e below _ (T_382.setTop (mkF m 314 #[.val (.int p1), .val (.int p2), .val (.long q3), .second, .val (.int p4), .val (.int p5), .val (.int p6), .val (.int (p1 &&& (3 : Int32))), .val (.ref b_1), .val (.int (7 : Int32)), .val (.ref b_360), .unset, .unset, .unset, .unset, .unset] []))
        have V_383 : Arv Z h_382 b_360 k_360 .char (7 : Int32) [(.int e0), (.int e1), (.int e2), (.int e3), (.int e4), (.int (0 : Int32)), (.int (0 : Int32))] (.int (0 : Int32)) := by have q := V_382; rwa [own_nar he4] at q
        refine own_via (fun _ => XS.iload X_382.here hx rfl (hb hby at_314) rfl) ?_
        show own_Go p e below _ (T_382.setTop (mkF m 316 #[.val (.int p1), .val (.int p2), .val (.long q3), .second, .val (.int p4), .val (.int p5), .val (.int p6), .val (.int (p1 &&& (3 : Int32))), .val (.ref b_1), .val (.int (7 : Int32)), .val (.ref b_360), .unset, .unset, .unset, .unset, .unset] [(.int (7 : Int32))]))
        refine own_via (fun _ => XS.iconst X_382.here hx rfl (hb hby at_316)) ?_
        show own_Go p e below _ (T_382.setTop (mkF m 317 #[.val (.int p1), .val (.int p2), .val (.long q3), .second, .val (.int p4), .val (.int p5), .val (.int p6), .val (.int (p1 &&& (3 : Int32))), .val (.ref b_1), .val (.int (7 : Int32)), .val (.ref b_360), .unset, .unset, .unset, .unset, .unset] [(.int (5 : Int32)), (.int (7 : Int32))]))
        refine own_via (fun _ => XS.icmpNo X_382.here hx rfl (hb hby at_317) rfl (tlt ((by decide) : (5 : Int32) < (7 : Int32))).2.2.2) ?_
        show own_Go p e below _ (T_382.setTop (mkF m 320 #[.val (.int p1), .val (.int p2), .val (.long q3), .second, .val (.int p4), .val (.int p5), .val (.int p6), .val (.int (p1 &&& (3 : Int32))), .val (.ref b_1), .val (.int (7 : Int32)), .val (.ref b_360), .unset, .unset, .unset, .unset, .unset] []))
        refine own_via (fun _ => XS.aload X_382.here hx rfl (hb hby at_320) rfl rfl) ?_
        show own_Go p e below _ (T_382.setTop (mkF m 322 #[.val (.int p1), .val (.int p2), .val (.long q3), .second, .val (.int p4), .val (.int p5), .val (.int p6), .val (.int (p1 &&& (3 : Int32))), .val (.ref b_1), .val (.int (7 : Int32)), .val (.ref b_360), .unset, .unset, .unset, .unset, .unset] [(.ref b_360)]))
        refine own_via (fun _ => XS.iconst X_382.here hx rfl (hb hby at_322)) ?_
        show own_Go p e below _ (T_382.setTop (mkF m 323 #[.val (.int p1), .val (.int p2), .val (.long q3), .second, .val (.int p4), .val (.int p5), .val (.int p6), .val (.int (p1 &&& (3 : Int32))), .val (.ref b_1), .val (.int (7 : Int32)), .val (.ref b_360), .unset, .unset, .unset, .unset, .unset] [(.int (5 : Int32)), (.ref b_360)]))
        refine own_via (fun _ => XS.aload X_382.here hx rfl (hb hby at_323) rfl rfl) ?_
        show own_Go p e below _ (T_382.setTop (mkF m 325 #[.val (.int p1), .val (.int p2), .val (.long q3), .second, .val (.int p4), .val (.int p5), .val (.int p6), .val (.int (p1 &&& (3 : Int32))), .val (.ref b_1), .val (.int (7 : Int32)), .val (.ref b_360), .unset, .unset, .unset, .unset, .unset] [(.ref b_1), (.int (5 : Int32)), (.ref b_360)]))
        refine own_via (fun _ => XS.iconst X_382.here hx rfl (hb hby at_325)) ?_
        show own_Go p e below _ (T_382.setTop (mkF m 326 #[.val (.int p1), .val (.int p2), .val (.long q3), .second, .val (.int p4), .val (.int p5), .val (.int p6), .val (.int (p1 &&& (3 : Int32))), .val (.ref b_1), .val (.int (7 : Int32)), .val (.ref b_360), .unset, .unset, .unset, .unset, .unset] [(.int (5 : Int32)), (.ref b_1), (.int (5 : Int32)), (.ref b_360)]))
        have K_384 : Keep h_38 h_382 [] := Keep.wr (ws := []) K_380 W_382 (Or.inr (Nat.le_of_eq g_360.symm))
        obtain ⟨cl_385, Ar_385, q_385, S_385, M_385, H_385, G_385⟩ := (id (VE.keep K_384 nin0))
        have in_385 : ¬ ((5 : Int32) < 0 ∨ cl_385.slots.size ≤ ((5 : Int32)).toNatClampNeg) := inb_of S_385 ⟨by decide, by decide⟩
        refine own_via (X_382.caload hx (j := (5 : Int32)) (v := (.int e5)) (by rw [e_382]; exact Ar_385.1) (State.isArrayOf_alike hZ.alike Ar_385.2.1) Ar_385.2.2 in_385 (Has.at H_385 in_385 rfl) (g := (mkF m 326 #[.val (.int p1), .val (.int p2), .val (.long q3), .second, .val (.int p4), .val (.int p5), .val (.int p6), .val (.int (p1 &&& (3 : Int32))), .val (.ref b_1), .val (.int (7 : Int32)), .val (.ref b_360), .unset, .unset, .unset, .unset, .unset] [(.int (5 : Int32)), (.ref b_1), (.int (5 : Int32)), (.ref b_360)])) rfl rfl (hb hby at_326)) ?_
        show own_Go p e below _ (T_382.setTop (mkF m 327 #[.val (.int p1), .val (.int p2), .val (.long q3), .second, .val (.int p4), .val (.int p5), .val (.int p6), .val (.int (p1 &&& (3 : Int32))), .val (.ref b_1), .val (.int (7 : Int32)), .val (.ref b_360), .unset, .unset, .unset, .unset, .unset] [(.int e5), (.int (5 : Int32)), (.ref b_360)]))
        obtain ⟨cl_386, Ar_386, q_386, S_386, M_386, H_386, G_386⟩ := (id V_383)
        obtain ⟨T_386, h_386, X_386, e_386, W_386, st_386⟩ := stC X_382 hx hZ e_382 Ar_386 (j := (5 : Int32)) (inb_of S_386 ⟨by decide, by decide⟩) (g := (mkF m 327 #[.val (.int p1), .val (.int p2), .val (.long q3), .second, .val (.int p4), .val (.int p5), .val (.int p6), .val (.int (p1 &&& (3 : Int32))), .val (.ref b_1), .val (.int (7 : Int32)), .val (.ref b_360), .unset, .unset, .unset, .unset, .unset] [(.int e5), (.int (5 : Int32)), (.ref b_360)])) rfl rfl (hb hby at_327)
        have V_386 : Arv Z h_386 b_360 k_360 .char (7 : Int32) [(.int e0), (.int e1), (.int e2), (.int e3), (.int e4), (.int (nar .char e5)), (.int (0 : Int32))] (.int (0 : Int32)) := Arv.set Ar_386 q_386 S_386 M_386 H_386 G_386 (fits_nar_char _) W_386 5 rfl (Nat.le_of_ble_eq_true rfl)
        have N_386 := Fr.snoc X_386 N_382 (Nat.le_trans Z0 (Nat.le_trans K_366.1 (Nat.le_of_eq g_360.symm)))
        refine own_via st_386 ?_
        show own_Go p e below _ (T_386.setTop (mkF m 328 #[.val (.int p1), .val (.int p2), .val (.long q3), .second, .val (.int p4), .val (.int p5), .val (.int p6), .val (.int (p1 &&& (3 : Int32))), .val (.ref b_1), .val (.int (7 : Int32)), .val (.ref b_360), .unset, .unset, .unset, .unset, .unset] []))
        have V_387 : Arv Z h_386 b_360 k_360 .char (7 : Int32) [(.int e0), (.int e1), (.int e2), (.int e3), (.int e4), (.int e5), (.int (0 : Int32))] (.int (0 : Int32)) := by have q := V_386; rwa [own_nar he5] at q
        refine own_via (fun _ => XS.iload X_386.here hx rfl (hb hby at_328) rfl) ?_
        show own_Go p e below _ (T_386.setTop (mkF m 330 #[.val (.int p1), .val (.int p2), .val (.long q3), .second, .val (.int p4), .val (.int p5), .val (.int p6), .val (.int (p1 &&& (3 : Int32))), .val (.ref b_1), .val (.int (7 : Int32)), .val (.ref b_360), .unset, .unset, .unset, .unset, .unset] [(.int (7 : Int32))]))
        refine own_via (fun _ => XS.bipush X_386.here hx rfl (hb hby at_330)) ?_
        show own_Go p e below _ (T_386.setTop (mkF m 332 #[.val (.int p1), .val (.int p2), .val (.long q3), .second, .val (.int p4), .val (.int p5), .val (.int p6), .val (.int (p1 &&& (3 : Int32))), .val (.ref b_1), .val (.int (7 : Int32)), .val (.ref b_360), .unset, .unset, .unset, .unset, .unset] [(.int (6 : Int32)), (.int (7 : Int32))]))
        refine own_via (fun _ => XS.icmpNo X_386.here hx rfl (hb hby at_332) rfl (tlt ((by decide) : (6 : Int32) < (7 : Int32))).2.2.2) ?_
        show own_Go p e below _ (T_386.setTop (mkF m 335 #[.val (.int p1), .val (.int p2), .val (.long q3), .second, .val (.int p4), .val (.int p5), .val (.int p6), .val (.int (p1 &&& (3 : Int32))), .val (.ref b_1), .val (.int (7 : Int32)), .val (.ref b_360), .unset, .unset, .unset, .unset, .unset] []))
        refine own_via (fun _ => XS.aload X_386.here hx rfl (hb hby at_335) rfl rfl) ?_
        show own_Go p e below _ (T_386.setTop (mkF m 337 #[.val (.int p1), .val (.int p2), .val (.long q3), .second, .val (.int p4), .val (.int p5), .val (.int p6), .val (.int (p1 &&& (3 : Int32))), .val (.ref b_1), .val (.int (7 : Int32)), .val (.ref b_360), .unset, .unset, .unset, .unset, .unset] [(.ref b_360)]))
        refine own_via (fun _ => XS.bipush X_386.here hx rfl (hb hby at_337)) ?_
        show own_Go p e below _ (T_386.setTop (mkF m 339 #[.val (.int p1), .val (.int p2), .val (.long q3), .second, .val (.int p4), .val (.int p5), .val (.int p6), .val (.int (p1 &&& (3 : Int32))), .val (.ref b_1), .val (.int (7 : Int32)), .val (.ref b_360), .unset, .unset, .unset, .unset, .unset] [(.int (6 : Int32)), (.ref b_360)]))
        refine own_via (fun _ => XS.aload X_386.here hx rfl (hb hby at_339) rfl rfl) ?_
        show own_Go p e below _ (T_386.setTop (mkF m 341 #[.val (.int p1), .val (.int p2), .val (.long q3), .second, .val (.int p4), .val (.int p5), .val (.int p6), .val (.int (p1 &&& (3 : Int32))), .val (.ref b_1), .val (.int (7 : Int32)), .val (.ref b_360), .unset, .unset, .unset, .unset, .unset] [(.ref b_1), (.int (6 : Int32)), (.ref b_360)]))
        refine own_via (fun _ => XS.bipush X_386.here hx rfl (hb hby at_341)) ?_
        show own_Go p e below _ (T_386.setTop (mkF m 343 #[.val (.int p1), .val (.int p2), .val (.long q3), .second, .val (.int p4), .val (.int p5), .val (.int p6), .val (.int (p1 &&& (3 : Int32))), .val (.ref b_1), .val (.int (7 : Int32)), .val (.ref b_360), .unset, .unset, .unset, .unset, .unset] [(.int (6 : Int32)), (.ref b_1), (.int (6 : Int32)), (.ref b_360)]))
        have K_388 : Keep h_38 h_386 [] := Keep.wr (ws := []) K_384 W_386 (Or.inr (Nat.le_of_eq g_360.symm))
        obtain ⟨cl_389, Ar_389, q_389, S_389, M_389, H_389, G_389⟩ := (id (VE.keep K_388 nin0))
        have in_389 : ¬ ((6 : Int32) < 0 ∨ cl_389.slots.size ≤ ((6 : Int32)).toNatClampNeg) := inb_of S_389 ⟨by decide, by decide⟩
        refine own_via (X_386.caload hx (j := (6 : Int32)) (v := (.int e6)) (by rw [e_386]; exact Ar_389.1) (State.isArrayOf_alike hZ.alike Ar_389.2.1) Ar_389.2.2 in_389 (Has.at H_389 in_389 rfl) (g := (mkF m 343 #[.val (.int p1), .val (.int p2), .val (.long q3), .second, .val (.int p4), .val (.int p5), .val (.int p6), .val (.int (p1 &&& (3 : Int32))), .val (.ref b_1), .val (.int (7 : Int32)), .val (.ref b_360), .unset, .unset, .unset, .unset, .unset] [(.int (6 : Int32)), (.ref b_1), (.int (6 : Int32)), (.ref b_360)])) rfl rfl (hb hby at_343)) ?_
        show own_Go p e below _ (T_386.setTop (mkF m 344 #[.val (.int p1), .val (.int p2), .val (.long q3), .second, .val (.int p4), .val (.int p5), .val (.int p6), .val (.int (p1 &&& (3 : Int32))), .val (.ref b_1), .val (.int (7 : Int32)), .val (.ref b_360), .unset, .unset, .unset, .unset, .unset] [(.int e6), (.int (6 : Int32)), (.ref b_360)]))
        obtain ⟨cl_390, Ar_390, q_390, S_390, M_390, H_390, G_390⟩ := (id V_387)
        obtain ⟨T_390, h_390, X_390, e_390, W_390, st_390⟩ := stC X_386 hx hZ e_386 Ar_390 (j := (6 : Int32)) (inb_of S_390 ⟨by decide, by decide⟩) (g := (mkF m 344 #[.val (.int p1), .val (.int p2), .val (.long q3), .second, .val (.int p4), .val (.int p5), .val (.int p6), .val (.int (p1 &&& (3 : Int32))), .val (.ref b_1), .val (.int (7 : Int32)), .val (.ref b_360), .unset, .unset, .unset, .unset, .unset] [(.int e6), (.int (6 : Int32)), (.ref b_360)])) rfl rfl (hb hby at_344)
        have V_390 : Arv Z h_390 b_360 k_360 .char (7 : Int32) [(.int e0), (.int e1), (.int e2), (.int e3), (.int e4), (.int e5), (.int (nar .char e6))] (.int (0 : Int32)) := Arv.set Ar_390 q_390 S_390 M_390 H_390 G_390 (fits_nar_char _) W_390 6 rfl (Nat.le_of_ble_eq_true rfl)
        have N_390 := Fr.snoc X_390 N_386 (Nat.le_trans Z0 (Nat.le_trans K_366.1 (Nat.le_of_eq g_360.symm)))
        refine own_via st_390 ?_
        show own_Go p e below _ (T_390.setTop (mkF m 345 #[.val (.int p1), .val (.int p2), .val (.long q3), .second, .val (.int p4), .val (.int p5), .val (.int p6), .val (.int (p1 &&& (3 : Int32))), .val (.ref b_1), .val (.int (7 : Int32)), .val (.ref b_360), .unset, .unset, .unset, .unset, .unset] []))
        have V_391 : Arv Z h_390 b_360 k_360 .char (7 : Int32) [(.int e0), (.int e1), (.int e2), (.int e3), (.int e4), (.int e5), (.int e6)] (.int (0 : Int32)) := by have q := V_390; rwa [own_nar he6] at q
        obtain ⟨T_392, h_392, X_392, e_392, E_392, A_392, D_392, -, st_392⟩ := newO X_390 hx hZ hown (own_w hw 6 rfl) (own_w hw 7 rfl) (own_w hw 8 rfl) e_390 (g := (mkF m 345 #[.val (.int p1), .val (.int p2), .val (.long q3), .second, .val (.int p4), .val (.int p5), .val (.int p6), .val (.int (p1 &&& (3 : Int32))), .val (.ref b_1), .val (.int (7 : Int32)), .val (.ref b_360), .unset, .unset, .unset, .unset, .unset] [])) rfl (hb hby at_345) (by decide) (by decide)
        obtain ⟨b_392, g_392⟩ : ∃ z, z = h_390.size := ⟨_, rfl⟩
        rw [← g_392] at A_392 D_392 st_392
        have F_393 : Fld Z h_392 b_392 "com/example/cascadilla/cascadilla/language/Type" "name" "Ljava/lang/String;" .null := D_392 (Or.inr (own_w hw 43 rfl)) (ty := (.object "java/lang/String")) (by decide)
        have F_394 : Fld Z h_392 b_392 "com/example/cascadilla/cascadilla/language/Type" "label" "Lcom/example/cascadilla/cascadilla/language/Label;" .null := D_392 (Or.inr (own_w hw 45 rfl)) (ty := (.object "com/example/cascadilla/cascadilla/language/Label")) (by decide)
        have F_395 : Fld Z h_392 b_392 "com/example/cascadilla/cascadilla/language/Type" "line" "I" (.int (0 : Int32)) := D_392 (Or.inr (own_w hw 47 rfl)) (ty := .int) (by decide)
        refine own_via st_392 ?_
        show own_Go p e below _ (T_392.setTop (mkF m 348 #[.val (.int p1), .val (.int p2), .val (.long q3), .second, .val (.int p4), .val (.int p5), .val (.int p6), .val (.int (p1 &&& (3 : Int32))), .val (.ref b_1), .val (.int (7 : Int32)), .val (.ref b_360), .unset, .unset, .unset, .unset, .unset] [(.ref b_392)]))
        refine own_via (fun _ => XS.dup X_392.here hx rfl (hb hby at_348) rfl rfl) ?_
        show own_Go p e below _ (T_392.setTop (mkF m 349 #[.val (.int p1), .val (.int p2), .val (.long q3), .second, .val (.int p4), .val (.int p5), .val (.int p6), .val (.int (p1 &&& (3 : Int32))), .val (.ref b_1), .val (.int (7 : Int32)), .val (.ref b_360), .unset, .unset, .unset, .unset, .unset] [(.ref b_392), (.ref b_392)]))
        obtain ⟨T_396, h_396, X_396, e_396, E_396, A_396, D_396, -, st_396⟩ := newO X_392 hx hZ hown (own_w hw 9 rfl) (own_w hw 10 rfl) (own_w hw 11 rfl) e_392 (g := (mkF m 349 #[.val (.int p1), .val (.int p2), .val (.long q3), .second, .val (.int p4), .val (.int p5), .val (.int p6), .val (.int (p1 &&& (3 : Int32))), .val (.ref b_1), .val (.int (7 : Int32)), .val (.ref b_360), .unset, .unset, .unset, .unset, .unset] [(.ref b_392), (.ref b_392)])) rfl (hb hby at_349) (by decide) (by decide)
        obtain ⟨b_396, g_396⟩ : ∃ z, z = h_392.size := ⟨_, rfl⟩
        rw [← g_396] at A_396 D_396 st_396
        have F_397 : Fld Z h_396 b_396 "java/lang/String" "coder" "B" (.int (0 : Int32)) := D_396 (Or.inr (own_w hw 35 rfl)) (ty := .byte) (by decide)
        have F_398 : Fld Z h_396 b_396 "java/lang/String" "value" "[B" .null := D_396 (Or.inr (own_w hw 37 rfl)) (ty := (.array .byte)) (by decide)
        refine own_via st_396 ?_
        show own_Go p e below _ (T_396.setTop (mkF m 352 #[.val (.int p1), .val (.int p2), .val (.long q3), .second, .val (.int p4), .val (.int p5), .val (.int p6), .val (.int (p1 &&& (3 : Int32))), .val (.ref b_1), .val (.int (7 : Int32)), .val (.ref b_360), .unset, .unset, .unset, .unset, .unset] [(.ref b_396), (.ref b_392), (.ref b_392)]))
        refine own_via (fun _ => XS.dup X_396.here hx rfl (hb hby at_352) rfl rfl) ?_
        show own_Go p e below _ (T_396.setTop (mkF m 353 #[.val (.int p1), .val (.int p2), .val (.long q3), .second, .val (.int p4), .val (.int p5), .val (.int p6), .val (.int (p1 &&& (3 : Int32))), .val (.ref b_1), .val (.int (7 : Int32)), .val (.ref b_360), .unset, .unset, .unset, .unset, .unset] [(.ref b_396), (.ref b_396), (.ref b_392), (.ref b_392)]))
        refine own_via (fun _ => XS.aload X_396.here hx rfl (hb hby at_353) rfl rfl) ?_
        show own_Go p e below _ (T_396.setTop (mkF m 355 #[.val (.int p1), .val (.int p2), .val (.long q3), .second, .val (.int p4), .val (.int p5), .val (.int p6), .val (.int (p1 &&& (3 : Int32))), .val (.ref b_1), .val (.int (7 : Int32)), .val (.ref b_360), .unset, .unset, .unset, .unset, .unset] [(.ref b_360), (.ref b_396), (.ref b_396), (.ref b_392), (.ref b_392)]))
        have hp : ∀ c ∈ ([e0, e1, e2, e3, e4, e5, e6] : List Int32), ¬ c < 0 ∧ ¬ (255 : Int32) < c := by intro c hc; simp only [List.mem_cons, List.not_mem_nil, or_false] at hc; rcases hc with rfl | rfl | rfl | rfl | rfl | rfl | rfl <;> assumption
        have K_399 : Keep h_390 h_392 [] := (Keep.refl h_390 []).ext E_392
        have K_400 : Keep h_390 h_396 [] := K_399.ext E_396
        have K_401 : Keep h0 h_360 [] := K_366.ext E_360
        have K_402 : Keep h0 h_363 [] := Keep.wr (ws := []) K_401 W_363 (Or.inr (Nat.le_trans K_366.1 (Nat.le_of_eq g_360.symm)))
        have K_403 : Keep h0 h_370 [] := Keep.wr (ws := []) K_402 W_370 (Or.inr (Nat.le_trans K_366.1 (Nat.le_of_eq g_360.symm)))
        have K_404 : Keep h0 h_374 [] := Keep.wr (ws := []) K_403 W_374 (Or.inr (Nat.le_trans K_366.1 (Nat.le_of_eq g_360.symm)))
        have K_405 : Keep h0 h_378 [] := Keep.wr (ws := []) K_404 W_378 (Or.inr (Nat.le_trans K_366.1 (Nat.le_of_eq g_360.symm)))
        have K_406 : Keep h0 h_382 [] := Keep.wr (ws := []) K_405 W_382 (Or.inr (Nat.le_trans K_366.1 (Nat.le_of_eq g_360.symm)))
        have K_407 : Keep h0 h_386 [] := Keep.wr (ws := []) K_406 W_386 (Or.inr (Nat.le_trans K_366.1 (Nat.le_of_eq g_360.symm)))
        have K_408 : Keep h0 h_390 [] := Keep.wr (ws := []) K_407 W_390 (Or.inr (Nat.le_trans K_366.1 (Nat.le_of_eq g_360.symm)))
        have K_409 : Keep h0 h_392 [] := K_408.ext E_392
        have K_410 : Keep h0 h_396 [] := K_409.ext E_396
        obtain ⟨_, _, ⟨T_411, L_411, k_411, n_411⟩, -, X_411, ⟨Lc_411, hQ_411, l_411, y_411, z_411⟩, st_411⟩ := X_396.specialBack hx (y := (⟨"java/lang/String", "<init>", "([C)V"⟩ : MethodName)) rfl hown (mvT hZ (own_w hw 12 rfl)) (mvT hZ (own_w hw 13 rfl)) (mvT hZ (own_w hw 14 rfl)) (by decide) (StrChars.Road.backV (W := 3) hZ (own_hwords hw) (kI := 4) (own_w hw 10 rfl) (cs := ([e0, e1, e2, e3, e4, e5, e6] : List Int32)) (bs := ([e0, e1, e2, e3, e4, e5, e6] : List Int32).map (fun c => c.toInt8.toInt32)) (n := 7) (Nat.le_trans Z0 (Nat.le_trans K_409.1 (Nat.le_of_eq g_396.symm))) (Nat.le_trans Z0 K_410.1) A_396 F_398 F_397 (V_391.keep K_400 nin0) (Scs.ext (O0.keep K_410 all0).2) hcs rfl rfl (by decide) (by decide) hp rfl (by decide) (by decide)) (g := (mkF m 355 #[.val (.int p1), .val (.int p2), .val (.long q3), .second, .val (.int p4), .val (.int p5), .val (.int p6), .val (.int (p1 &&& (3 : Int32))), .val (.ref b_1), .val (.int (7 : Int32)), .val (.ref b_360), .unset, .unset, .unset, .unset, .unset] [(.ref b_360), (.ref b_396), (.ref b_396), (.ref b_392), (.ref b_392)])) rfl (by rw [hml]; rfl) (Steps.refl _) (a := b_396) (argsL := [(.ref b_360)]) (rest := [(.ref b_396), (.ref b_392), (.ref b_392)]) (lenOf pd_6 rfl) rfl (by show 2 * 0 + _ ≤ _; exact Nat.le_of_eq rfl) (hb hby at_355) (fun _ _ => ⟨rfl, e_396, (by decide : 4 + 1 ≤ _), (by decide : 21 + 7 ≤ _)⟩)
        dsimp only [Pt.U, Pt.locs, Pt.cells, Pt.slots] at X_411 l_411 y_411 z_411 st_411 hQ_411
        subst l_411 y_411 z_411
        obtain ⟨rfl, Nq_411, K_411q, EX_411, FC_411, t_411, kb_411, -, ft_411, -, FV_411, FA_411⟩ := hQ_411
        have N_411 := Fr.app N_390 Nq_411
        refine own_via (fun _ k => st_411.trans k) ?_
        show own_Go p e below _ (T_411.setTop (mkF m 358 #[.val (.int p1), .val (.int p2), .val (.long q3), .second, .val (.int p4), .val (.int p5), .val (.int p6), .val (.int (p1 &&& (3 : Int32))), .val (.ref b_1), .val (.int (7 : Int32)), .val (.ref b_360), .unset, .unset, .unset, .unset, .unset] [(.ref b_396), (.ref b_392), (.ref b_392)]))
        have SS : own_Str Z T_411.heap b_396 [e0, e1, e2, e3, e4, e5, e6] := ⟨EX_411, FC_411, ⟨t_411, kb_411, FV_411, FA_411⟩, hp, by simp⟩
        refine own_via (fun _ => XS.aconstNull X_411.here hx rfl (hb hby at_358)) ?_
        show own_Go p e below _ (T_411.setTop (mkF m 359 #[.val (.int p1), .val (.int p2), .val (.long q3), .second, .val (.int p4), .val (.int p5), .val (.int p6), .val (.int (p1 &&& (3 : Int32))), .val (.ref b_1), .val (.int (7 : Int32)), .val (.ref b_360), .unset, .unset, .unset, .unset, .unset] [.null, (.ref b_396), (.ref b_392), (.ref b_392)]))
        refine own_via (fun _ => XS.iload X_411.here hx rfl (hb hby at_359) rfl) ?_
        show own_Go p e below _ (T_411.setTop (mkF m 361 #[.val (.int p1), .val (.int p2), .val (.long q3), .second, .val (.int p4), .val (.int p5), .val (.int p6), .val (.int (p1 &&& (3 : Int32))), .val (.ref b_1), .val (.int (7 : Int32)), .val (.ref b_360), .unset, .unset, .unset, .unset, .unset] [(.int p6), .null, (.ref b_396), (.ref b_392), (.ref b_392)]))
        have K_412 : Keep h_392 h_396 [] := (Keep.refl h_392 []).ext E_396
        have K_413 : Keep h_392 T_411.heap [] := Keep.trans (ws := []) K_412 K_411q (allS (Or.inr (Nat.le_of_eq g_396.symm)) all0)
        have K_414 : Keep h0 T_411.heap [] := Keep.trans (ws := []) K_410 K_411q (allS (Or.inr (Nat.le_trans K_409.1 (Nat.le_of_eq g_396.symm))) all0)
        obtain ⟨_, _, ⟨T_415, L_415, k_415, n_415⟩, -, X_415, ⟨Lc_415, hQ_415, l_415, y_415, z_415⟩, st_415⟩ := X_411.specialBack hx (y := (⟨"com/example/cascadilla/cascadilla/language/Type", "<init>", "(Ljava/lang/String;Lcom/example/cascadilla/cascadilla/language/Label;I)V"⟩ : MethodName)) rfl hown (mvT hZ (own_w hw 38 rfl)) (mvT hZ (own_w hw 39 rfl)) (mvT hZ (own_w hw 40 rfl)) (by decide) (backOf (W := 1) (rmtype l Z a0 hw [] b_392 b_396 p6 T_411.heap n0 (Nat.le_trans Z0 K_414.1) (A_392.keep K_413) (F_393.keep K_413 nin0) (F_394.keep K_413 nin0) (F_395.keep K_413 nin0) (Nat.le_trans Z0 (Nat.le_trans K_408.1 (Nat.le_of_eq g_392.symm)))) hZ (own_w hw 40 rfl) (own_w hw 8 rfl) (by decide) (by decide)) (g := (mkF m 361 #[.val (.int p1), .val (.int p2), .val (.long q3), .second, .val (.int p4), .val (.int p5), .val (.int p6), .val (.int (p1 &&& (3 : Int32))), .val (.ref b_1), .val (.int (7 : Int32)), .val (.ref b_360), .unset, .unset, .unset, .unset, .unset] [(.int p6), .null, (.ref b_396), (.ref b_392), (.ref b_392)])) rfl (by rw [hml]; rfl) (Steps.refl _) (a := b_392) (argsL := [(.ref b_396), .null, (.int p6)]) (rest := [(.ref b_392)]) (lenOf pd_7 rfl) rfl (by show 2 * 0 + _ ≤ _; exact Nat.le_of_eq rfl) (hb hby at_361) (fun _ _ => ⟨rfl, rfl, (by decide : 5 + 0 ≤ _), (by decide : 28 + 0 ≤ _)⟩)
        dsimp only [Pt.U, Pt.locs, Pt.cells, Pt.slots] at X_415 l_415 y_415 z_415 st_415 hQ_415
        subst l_415 y_415 z_415
        obtain ⟨rfl, Nq_415, K_415q, q_415_0⟩ := hQ_415
        have N_415 := Fr.app N_411 Nq_415
        refine own_via (fun _ k => st_415.trans k) ?_
        show own_Go p e below _ (T_415.setTop (mkF m 364 #[.val (.int p1), .val (.int p2), .val (.long q3), .second, .val (.int p4), .val (.int p5), .val (.int p6), .val (.int (p1 &&& (3 : Int32))), .val (.ref b_1), .val (.int (7 : Int32)), .val (.ref b_360), .unset, .unset, .unset, .unset, .unset] [(.ref b_392)]))
        refine own_via (fun _ => XS.astore X_415.here hx rfl (hb hby at_364) rfl rfl (l' := #[.val (.int p1), .val (.int p2), .val (.long q3), .second, .val (.int p4), .val (.int p5), .val (.int p6), .val (.int (p1 &&& (3 : Int32))), .val (.ref b_1), .val (.int (7 : Int32)), .val (.ref b_360), .val (.ref b_392), .unset, .unset, .unset, .unset]) rfl) ?_
        show own_Go p e below _ (T_415.setTop (mkF m 366 #[.val (.int p1), .val (.int p2), .val (.long q3), .second, .val (.int p4), .val (.int p5), .val (.int p6), .val (.int (p1 &&& (3 : Int32))), .val (.ref b_1), .val (.int (7 : Int32)), .val (.ref b_360), .val (.ref b_392), .unset, .unset, .unset, .unset] []))
        refine own_via (fun _ => XS.aload X_415.here hx rfl (hb hby at_366) rfl rfl) ?_
        show own_Go p e below _ (T_415.setTop (mkF m 368 #[.val (.int p1), .val (.int p2), .val (.long q3), .second, .val (.int p4), .val (.int p5), .val (.int p6), .val (.int (p1 &&& (3 : Int32))), .val (.ref b_1), .val (.int (7 : Int32)), .val (.ref b_360), .val (.ref b_392), .unset, .unset, .unset, .unset] [(.ref b_392)]))
        have K_416 : Keep T_411.heap T_415.heap [b_392] := Keep.trans (ws := [b_392]) (own_keep_mono (Keep.refl T_411.heap []) (by simp)) K_415q (allS (Or.inl (List.mem_of_getElem? (i := 0) rfl)) all0)
        have K_417 : Keep h0 T_415.heap [] := Keep.trans (ws := []) K_414 K_415q (allS (Or.inr (Nat.le_trans K_408.1 (Nat.le_of_eq g_392.symm))) all0)
        have K_419 : Keep h_392 T_415.heap [b_392] := Keep.trans (ws := [b_392]) (own_keep_mono K_413 (by simp)) K_415q (allS (Or.inl (List.mem_of_getElem? (i := 0) rfl)) all0)
        obtain ⟨cq_418, kq_418, q_418a, q_418b, q_418c⟩ := isOf hZ rfl (A_392.keep K_419)
        obtain ⟨_, _, ⟨T_418, L_418, k_418, n_418⟩, -, Xc_418, hSc_418, hgc_418, ⟨Lc_418, hQ_418, l_418, y_418, z_418⟩, st_418⟩ := X_415.virtualBackS hx (y := (⟨"com/example/cascadilla/cascadilla/language/Type", "isClass", "()Z"⟩ : MethodName)) (z := (⟨"com/example/cascadilla/cascadilla/language/Type", "isClass", "()Z"⟩ : MethodName)) hown (mvT hZ (own_w hw 48 rfl)) (mvT hZ (own_w hw 49 rfl)) (notFace_of_selects (args := #[]) (mvT hZ (own_w hw 51 rfl))) (mvT hZ (own_w hw 51 rfl)) (mvT hZ (own_w hw 50 rfl)) (by decide) (own_backS (J := fun vm_ => CHv Z consts_1 vm_ T_415.heap) (W := 0) (rmisClass l Z a0 hw [] b_392 b_396 [e0, e1, e2, e3, e4, e5, e6] cs T_415.heap n0 (Nat.le_trans Z0 K_417.1) (O0.keep K_417 all0) Scs hcs q_415_0 (SS.keepO K_416 (own_offS (A_392.keep K_413) (by decide) (own_w hw 7 rfl) own_off0))) hZ (own_w hw 52 rfl) (own_w hw 8 rfl) (by decide) (by decide)) q_418a q_418c (g := (mkF m 368 #[.val (.int p1), .val (.int p2), .val (.long q3), .second, .val (.int p4), .val (.int p5), .val (.int p6), .val (.int (p1 &&& (3 : Int32))), .val (.ref b_1), .val (.int (7 : Int32)), .val (.ref b_360), .val (.ref b_392), .unset, .unset, .unset, .unset] [(.ref b_392)])) rfl (by rw [hml]; rfl) (Steps.refl _) (argsL := []) (rest := []) (lenOf pd_8 rfl) rfl (by show 2 * 0 + _ ≤ _; exact Nat.le_of_eq rfl) (hb hby at_368) (fun _ hW1 => ⟨rfl, rfl, (own_CHstay (J0.keep K_417 all0) hZ (own_EW hw) hW1), (by decide : 5 + 4 ≤ _), (by decide : 28 + 48 ≤ _)⟩)
        dsimp only [Pt.U, Pt.locs, Pt.cells, Pt.slots] at Xc_418 hSc_418 hgc_418 l_418 y_418 z_418 st_418 hQ_418
        subst l_418 y_418 z_418
        obtain ⟨X_418, hS_418, hZ_418, ho_418⟩ := rebS hS0 (Nat.le_trans (Nat.zero_le _) K_417.1) Xc_418 hSc_418 hgc_418 hZ hown
        obtain ⟨i_420, rfl, Nq_418, K_418q, q_418_0, J_418⟩ := hQ_418
        have N_418 := Fr.app N_415 Nq_418
        refine own_via (fun _ k => st_418.trans k) ?_
        show own_Go p e below _ (T_418.setTop (mkF m 371 #[.val (.int p1), .val (.int p2), .val (.long q3), .second, .val (.int p4), .val (.int p5), .val (.int p6), .val (.int (p1 &&& (3 : Int32))), .val (.ref b_1), .val (.int (7 : Int32)), .val (.ref b_360), .val (.ref b_392), .unset, .unset, .unset, .unset] [(.int i_420)]))
        refine own_via (fun _ => XS.istore X_418.here hx rfl (hb hby at_371) rfl (l' := #[.val (.int p1), .val (.int p2), .val (.long q3), .second, .val (.int p4), .val (.int p5), .val (.int p6), .val (.int (p1 &&& (3 : Int32))), .val (.ref b_1), .val (.int (7 : Int32)), .val (.ref b_360), .val (.ref b_392), .val (.int i_420), .unset, .unset, .unset]) rfl) ?_
        show own_Go p e below _ (T_418.setTop (mkF m 373 #[.val (.int p1), .val (.int p2), .val (.long q3), .second, .val (.int p4), .val (.int p5), .val (.int p6), .val (.int (p1 &&& (3 : Int32))), .val (.ref b_1), .val (.int (7 : Int32)), .val (.ref b_360), .val (.ref b_392), .val (.int i_420), .unset, .unset, .unset] []))
        refine own_via (fun _ => XS.iload X_418.here hx rfl (hb hby at_373) rfl) ?_
        show own_Go p e below _ (T_418.setTop (mkF m 375 #[.val (.int p1), .val (.int p2), .val (.long q3), .second, .val (.int p4), .val (.int p5), .val (.int p6), .val (.int (p1 &&& (3 : Int32))), .val (.ref b_1), .val (.int (7 : Int32)), .val (.ref b_360), .val (.ref b_392), .val (.int i_420), .unset, .unset, .unset] [(.int (7 : Int32))]))
        refine own_via (fun _ => XS.iconst X_418.here hx rfl (hb hby at_375)) ?_
        show own_Go p e below _ (T_418.setTop (mkF m 376 #[.val (.int p1), .val (.int p2), .val (.long q3), .second, .val (.int p4), .val (.int p5), .val (.int p6), .val (.int (p1 &&& (3 : Int32))), .val (.ref b_1), .val (.int (7 : Int32)), .val (.ref b_360), .val (.ref b_392), .val (.int i_420), .unset, .unset, .unset] [(.int (3 : Int32)), (.int (7 : Int32))]))
        obtain ⟨z13, ez13⟩ : ∃ z : Int32, z = (0 : Int32) := ⟨_, rfl⟩
        refine own_seq (B := T_418.setTop (mkF m 411 #[.val (.int p1), .val (.int p2), .val (.long q3), .second, .val (.int p4), .val (.int p5), .val (.int p6), .val (.int (p1 &&& (3 : Int32))), .val (.ref b_1), .val (.int (7 : Int32)), .val (.ref b_360), .val (.ref b_392), .val (.int i_420), .unset, .unset, .unset] [(.int z13)])) (fun kz => ?_) ?_
        · refine own_via (fun _ => XS.icmpYes X_418.here hx rfl (pc0 := 376) (pc' := 410) rfl (hb hby at_376) rfl (feq ((by decide) : ¬ ((7 : Int32) = (3 : Int32)))).2 (by decide) (by decide)) ?_
          show own_Go p e below _ (T_418.setTop (mkF m 410 #[.val (.int p1), .val (.int p2), .val (.long q3), .second, .val (.int p4), .val (.int p5), .val (.int p6), .val (.int (p1 &&& (3 : Int32))), .val (.ref b_1), .val (.int (7 : Int32)), .val (.ref b_360), .val (.ref b_392), .val (.int i_420), .unset, .unset, .unset] []))
          refine own_via (fun _ => XS.iconst X_418.here hx rfl (hb hby at_410)) ?_
          show own_Go p e below _ (T_418.setTop (mkF m 411 #[.val (.int p1), .val (.int p2), .val (.long q3), .second, .val (.int p4), .val (.int p5), .val (.int p6), .val (.int (p1 &&& (3 : Int32))), .val (.ref b_1), .val (.int (7 : Int32)), .val (.ref b_360), .val (.ref b_392), .val (.int i_420), .unset, .unset, .unset] [(.int (0 : Int32))]))
          subst ez13
          exact kz
        show own_Go p e below _ (T_418.setTop (mkF m 411 #[.val (.int p1), .val (.int p2), .val (.long q3), .second, .val (.int p4), .val (.int p5), .val (.int p6), .val (.int (p1 &&& (3 : Int32))), .val (.ref b_1), .val (.int (7 : Int32)), .val (.ref b_360), .val (.ref b_392), .val (.int i_420), .unset, .unset, .unset] [(.int z13)]))
        refine own_via (fun _ => XS.istore X_418.here hx rfl (hb hby at_411) rfl (l' := #[.val (.int p1), .val (.int p2), .val (.long q3), .second, .val (.int p4), .val (.int p5), .val (.int p6), .val (.int (p1 &&& (3 : Int32))), .val (.ref b_1), .val (.int (7 : Int32)), .val (.ref b_360), .val (.ref b_392), .val (.int i_420), .val (.int z13), .unset, .unset]) rfl) ?_
        show own_Go p e below _ (T_418.setTop (mkF m 413 #[.val (.int p1), .val (.int p2), .val (.long q3), .second, .val (.int p4), .val (.int p5), .val (.int p6), .val (.int (p1 &&& (3 : Int32))), .val (.ref b_1), .val (.int (7 : Int32)), .val (.ref b_360), .val (.ref b_392), .val (.int i_420), .val (.int z13), .unset, .unset] []))
        refine own_via (fun _ => XS.iload X_418.here hx rfl (hb hby at_413) rfl) ?_
        show own_Go p e below _ (T_418.setTop (mkF m 415 #[.val (.int p1), .val (.int p2), .val (.long q3), .second, .val (.int p4), .val (.int p5), .val (.int p6), .val (.int (p1 &&& (3 : Int32))), .val (.ref b_1), .val (.int (7 : Int32)), .val (.ref b_360), .val (.ref b_392), .val (.int i_420), .val (.int z13), .unset, .unset] [(.int (7 : Int32))]))
        refine own_via (fun _ => XS.bipush X_418.here hx rfl (hb hby at_415)) ?_
        show own_Go p e below _ (T_418.setTop (mkF m 417 #[.val (.int p1), .val (.int p2), .val (.long q3), .second, .val (.int p4), .val (.int p5), .val (.int p6), .val (.int (p1 &&& (3 : Int32))), .val (.ref b_1), .val (.int (7 : Int32)), .val (.ref b_360), .val (.ref b_392), .val (.int i_420), .val (.int z13), .unset, .unset] [(.int (7 : Int32)), (.int (7 : Int32))]))
        obtain ⟨z14, ez14⟩ : ∃ z : Int32, z = (if e0 = (98 : Int32) then (if e1 = (111 : Int32) then (if e2 = (111 : Int32) then (if e3 = (108 : Int32) then (if e4 = (101 : Int32) then (if e5 = (97 : Int32) then (if e6 = (110 : Int32) then (1 : Int32) else (0 : Int32)) else (0 : Int32)) else (0 : Int32)) else (0 : Int32)) else (0 : Int32)) else (0 : Int32)) else (0 : Int32)) := ⟨_, rfl⟩
        refine own_seq (B := T_418.setTop (mkF m 489 #[.val (.int p1), .val (.int p2), .val (.long q3), .second, .val (.int p4), .val (.int p5), .val (.int p6), .val (.int (p1 &&& (3 : Int32))), .val (.ref b_1), .val (.int (7 : Int32)), .val (.ref b_360), .val (.ref b_392), .val (.int i_420), .val (.int z13), .unset, .unset] [(.int z14)])) (fun kz => ?_) ?_
        · refine own_via (fun _ => XS.icmpNo X_418.here hx rfl (hb hby at_417) rfl (teq ((by decide) : (7 : Int32) = (7 : Int32))).2) ?_
          show own_Go p e below _ (T_418.setTop (mkF m 420 #[.val (.int p1), .val (.int p2), .val (.long q3), .second, .val (.int p4), .val (.int p5), .val (.int p6), .val (.int (p1 &&& (3 : Int32))), .val (.ref b_1), .val (.int (7 : Int32)), .val (.ref b_360), .val (.ref b_392), .val (.int i_420), .val (.int z13), .unset, .unset] []))
          refine own_via (fun _ => XS.aload X_418.here hx rfl (hb hby at_420) rfl rfl) ?_
          show own_Go p e below _ (T_418.setTop (mkF m 422 #[.val (.int p1), .val (.int p2), .val (.long q3), .second, .val (.int p4), .val (.int p5), .val (.int p6), .val (.int (p1 &&& (3 : Int32))), .val (.ref b_1), .val (.int (7 : Int32)), .val (.ref b_360), .val (.ref b_392), .val (.int i_420), .val (.int z13), .unset, .unset] [(.ref b_360)]))
          refine own_via (fun _ => XS.iconst X_418.here hx rfl (hb hby at_422)) ?_
          show own_Go p e below _ (T_418.setTop (mkF m 423 #[.val (.int p1), .val (.int p2), .val (.long q3), .second, .val (.int p4), .val (.int p5), .val (.int p6), .val (.int (p1 &&& (3 : Int32))), .val (.ref b_1), .val (.int (7 : Int32)), .val (.ref b_360), .val (.ref b_392), .val (.int i_420), .val (.int z13), .unset, .unset] [(.int (0 : Int32)), (.ref b_360)]))
          have K_421 : Keep h_390 T_411.heap [] := Keep.trans (ws := []) K_400 K_411q (allS (Or.inr (Nat.le_trans K_399.1 (Nat.le_of_eq g_396.symm))) all0)
          have K_422 : Keep h_390 T_415.heap [] := Keep.trans (ws := []) K_421 K_415q (allS (Or.inr (Nat.le_of_eq g_392.symm)) all0)
          have K_423 : Keep h_390 T_418.heap [] := Keep.trans (ws := []) K_422 K_418q all0
          obtain ⟨cl_424, Ar_424, q_424, S_424, M_424, H_424, G_424⟩ := (id (V_391.keep K_423 nin0))
          have in_424 : ¬ ((0 : Int32) < 0 ∨ cl_424.slots.size ≤ ((0 : Int32)).toNatClampNeg) := inb_of S_424 ⟨by decide, by decide⟩
          refine own_via (X_418.caload hx (j := (0 : Int32)) (v := (.int e0)) Ar_424.1 (State.isArrayOf_alike hZ_418.alike Ar_424.2.1) Ar_424.2.2 in_424 (Has.at H_424 in_424 rfl) (g := (mkF m 423 #[.val (.int p1), .val (.int p2), .val (.long q3), .second, .val (.int p4), .val (.int p5), .val (.int p6), .val (.int (p1 &&& (3 : Int32))), .val (.ref b_1), .val (.int (7 : Int32)), .val (.ref b_360), .val (.ref b_392), .val (.int i_420), .val (.int z13), .unset, .unset] [(.int (0 : Int32)), (.ref b_360)])) rfl rfl (hb hby at_423)) ?_
          show own_Go p e below _ (T_418.setTop (mkF m 424 #[.val (.int p1), .val (.int p2), .val (.long q3), .second, .val (.int p4), .val (.int p5), .val (.int p6), .val (.int (p1 &&& (3 : Int32))), .val (.ref b_1), .val (.int (7 : Int32)), .val (.ref b_360), .val (.ref b_392), .val (.int i_420), .val (.int z13), .unset, .unset] [(.int e0)]))
          refine own_via (fun _ => XS.bipush X_418.here hx rfl (hb hby at_424)) ?_
          show own_Go p e below _ (T_418.setTop (mkF m 426 #[.val (.int p1), .val (.int p2), .val (.long q3), .second, .val (.int p4), .val (.int p5), .val (.int p6), .val (.int (p1 &&& (3 : Int32))), .val (.ref b_1), .val (.int (7 : Int32)), .val (.ref b_360), .val (.ref b_392), .val (.int i_420), .val (.int z13), .unset, .unset] [(.int (98 : Int32)), (.int e0)]))
          by_cases hv_425 : e0 = (98 : Int32)
          · refine own_via (fun _ => XS.icmpNo X_418.here hx rfl (hb hby at_426) rfl (teq (hv_425 : e0 = (98 : Int32))).2) ?_
            show own_Go p e below _ (T_418.setTop (mkF m 429 #[.val (.int p1), .val (.int p2), .val (.long q3), .second, .val (.int p4), .val (.int p5), .val (.int p6), .val (.int (p1 &&& (3 : Int32))), .val (.ref b_1), .val (.int (7 : Int32)), .val (.ref b_360), .val (.ref b_392), .val (.int i_420), .val (.int z13), .unset, .unset] []))
            refine own_via (fun _ => XS.aload X_418.here hx rfl (hb hby at_429) rfl rfl) ?_
            show own_Go p e below _ (T_418.setTop (mkF m 431 #[.val (.int p1), .val (.int p2), .val (.long q3), .second, .val (.int p4), .val (.int p5), .val (.int p6), .val (.int (p1 &&& (3 : Int32))), .val (.ref b_1), .val (.int (7 : Int32)), .val (.ref b_360), .val (.ref b_392), .val (.int i_420), .val (.int z13), .unset, .unset] [(.ref b_360)]))
            refine own_via (fun _ => XS.iconst X_418.here hx rfl (hb hby at_431)) ?_
            show own_Go p e below _ (T_418.setTop (mkF m 432 #[.val (.int p1), .val (.int p2), .val (.long q3), .second, .val (.int p4), .val (.int p5), .val (.int p6), .val (.int (p1 &&& (3 : Int32))), .val (.ref b_1), .val (.int (7 : Int32)), .val (.ref b_360), .val (.ref b_392), .val (.int i_420), .val (.int z13), .unset, .unset] [(.int (1 : Int32)), (.ref b_360)]))
            obtain ⟨cl_426, Ar_426, q_426, S_426, M_426, H_426, G_426⟩ := (id (V_391.keep K_423 nin0))
            have in_426 : ¬ ((1 : Int32) < 0 ∨ cl_426.slots.size ≤ ((1 : Int32)).toNatClampNeg) := inb_of S_426 ⟨by decide, by decide⟩
            refine own_via (X_418.caload hx (j := (1 : Int32)) (v := (.int e1)) Ar_426.1 (State.isArrayOf_alike hZ_418.alike Ar_426.2.1) Ar_426.2.2 in_426 (Has.at H_426 in_426 rfl) (g := (mkF m 432 #[.val (.int p1), .val (.int p2), .val (.long q3), .second, .val (.int p4), .val (.int p5), .val (.int p6), .val (.int (p1 &&& (3 : Int32))), .val (.ref b_1), .val (.int (7 : Int32)), .val (.ref b_360), .val (.ref b_392), .val (.int i_420), .val (.int z13), .unset, .unset] [(.int (1 : Int32)), (.ref b_360)])) rfl rfl (hb hby at_432)) ?_
            show own_Go p e below _ (T_418.setTop (mkF m 433 #[.val (.int p1), .val (.int p2), .val (.long q3), .second, .val (.int p4), .val (.int p5), .val (.int p6), .val (.int (p1 &&& (3 : Int32))), .val (.ref b_1), .val (.int (7 : Int32)), .val (.ref b_360), .val (.ref b_392), .val (.int i_420), .val (.int z13), .unset, .unset] [(.int e1)]))
            refine own_via (fun _ => XS.bipush X_418.here hx rfl (hb hby at_433)) ?_
            show own_Go p e below _ (T_418.setTop (mkF m 435 #[.val (.int p1), .val (.int p2), .val (.long q3), .second, .val (.int p4), .val (.int p5), .val (.int p6), .val (.int (p1 &&& (3 : Int32))), .val (.ref b_1), .val (.int (7 : Int32)), .val (.ref b_360), .val (.ref b_392), .val (.int i_420), .val (.int z13), .unset, .unset] [(.int (111 : Int32)), (.int e1)]))
            by_cases hv_427 : e1 = (111 : Int32)
            · refine own_via (fun _ => XS.icmpNo X_418.here hx rfl (hb hby at_435) rfl (teq (hv_427 : e1 = (111 : Int32))).2) ?_
              show own_Go p e below _ (T_418.setTop (mkF m 438 #[.val (.int p1), .val (.int p2), .val (.long q3), .second, .val (.int p4), .val (.int p5), .val (.int p6), .val (.int (p1 &&& (3 : Int32))), .val (.ref b_1), .val (.int (7 : Int32)), .val (.ref b_360), .val (.ref b_392), .val (.int i_420), .val (.int z13), .unset, .unset] []))
              refine own_via (fun _ => XS.aload X_418.here hx rfl (hb hby at_438) rfl rfl) ?_
              show own_Go p e below _ (T_418.setTop (mkF m 440 #[.val (.int p1), .val (.int p2), .val (.long q3), .second, .val (.int p4), .val (.int p5), .val (.int p6), .val (.int (p1 &&& (3 : Int32))), .val (.ref b_1), .val (.int (7 : Int32)), .val (.ref b_360), .val (.ref b_392), .val (.int i_420), .val (.int z13), .unset, .unset] [(.ref b_360)]))
              refine own_via (fun _ => XS.iconst X_418.here hx rfl (hb hby at_440)) ?_
              show own_Go p e below _ (T_418.setTop (mkF m 441 #[.val (.int p1), .val (.int p2), .val (.long q3), .second, .val (.int p4), .val (.int p5), .val (.int p6), .val (.int (p1 &&& (3 : Int32))), .val (.ref b_1), .val (.int (7 : Int32)), .val (.ref b_360), .val (.ref b_392), .val (.int i_420), .val (.int z13), .unset, .unset] [(.int (2 : Int32)), (.ref b_360)]))
              obtain ⟨cl_428, Ar_428, q_428, S_428, M_428, H_428, G_428⟩ := (id (V_391.keep K_423 nin0))
              have in_428 : ¬ ((2 : Int32) < 0 ∨ cl_428.slots.size ≤ ((2 : Int32)).toNatClampNeg) := inb_of S_428 ⟨by decide, by decide⟩
              refine own_via (X_418.caload hx (j := (2 : Int32)) (v := (.int e2)) Ar_428.1 (State.isArrayOf_alike hZ_418.alike Ar_428.2.1) Ar_428.2.2 in_428 (Has.at H_428 in_428 rfl) (g := (mkF m 441 #[.val (.int p1), .val (.int p2), .val (.long q3), .second, .val (.int p4), .val (.int p5), .val (.int p6), .val (.int (p1 &&& (3 : Int32))), .val (.ref b_1), .val (.int (7 : Int32)), .val (.ref b_360), .val (.ref b_392), .val (.int i_420), .val (.int z13), .unset, .unset] [(.int (2 : Int32)), (.ref b_360)])) rfl rfl (hb hby at_441)) ?_
              show own_Go p e below _ (T_418.setTop (mkF m 442 #[.val (.int p1), .val (.int p2), .val (.long q3), .second, .val (.int p4), .val (.int p5), .val (.int p6), .val (.int (p1 &&& (3 : Int32))), .val (.ref b_1), .val (.int (7 : Int32)), .val (.ref b_360), .val (.ref b_392), .val (.int i_420), .val (.int z13), .unset, .unset] [(.int e2)]))
              refine own_via (fun _ => XS.bipush X_418.here hx rfl (hb hby at_442)) ?_
              show own_Go p e below _ (T_418.setTop (mkF m 444 #[.val (.int p1), .val (.int p2), .val (.long q3), .second, .val (.int p4), .val (.int p5), .val (.int p6), .val (.int (p1 &&& (3 : Int32))), .val (.ref b_1), .val (.int (7 : Int32)), .val (.ref b_360), .val (.ref b_392), .val (.int i_420), .val (.int z13), .unset, .unset] [(.int (111 : Int32)), (.int e2)]))
              by_cases hv_429 : e2 = (111 : Int32)
              · refine own_via (fun _ => XS.icmpNo X_418.here hx rfl (hb hby at_444) rfl (teq (hv_429 : e2 = (111 : Int32))).2) ?_
                show own_Go p e below _ (T_418.setTop (mkF m 447 #[.val (.int p1), .val (.int p2), .val (.long q3), .second, .val (.int p4), .val (.int p5), .val (.int p6), .val (.int (p1 &&& (3 : Int32))), .val (.ref b_1), .val (.int (7 : Int32)), .val (.ref b_360), .val (.ref b_392), .val (.int i_420), .val (.int z13), .unset, .unset] []))
                refine own_via (fun _ => XS.aload X_418.here hx rfl (hb hby at_447) rfl rfl) ?_
                show own_Go p e below _ (T_418.setTop (mkF m 449 #[.val (.int p1), .val (.int p2), .val (.long q3), .second, .val (.int p4), .val (.int p5), .val (.int p6), .val (.int (p1 &&& (3 : Int32))), .val (.ref b_1), .val (.int (7 : Int32)), .val (.ref b_360), .val (.ref b_392), .val (.int i_420), .val (.int z13), .unset, .unset] [(.ref b_360)]))
                refine own_via (fun _ => XS.iconst X_418.here hx rfl (hb hby at_449)) ?_
                show own_Go p e below _ (T_418.setTop (mkF m 450 #[.val (.int p1), .val (.int p2), .val (.long q3), .second, .val (.int p4), .val (.int p5), .val (.int p6), .val (.int (p1 &&& (3 : Int32))), .val (.ref b_1), .val (.int (7 : Int32)), .val (.ref b_360), .val (.ref b_392), .val (.int i_420), .val (.int z13), .unset, .unset] [(.int (3 : Int32)), (.ref b_360)]))
                obtain ⟨cl_430, Ar_430, q_430, S_430, M_430, H_430, G_430⟩ := (id (V_391.keep K_423 nin0))
                have in_430 : ¬ ((3 : Int32) < 0 ∨ cl_430.slots.size ≤ ((3 : Int32)).toNatClampNeg) := inb_of S_430 ⟨by decide, by decide⟩
                refine own_via (X_418.caload hx (j := (3 : Int32)) (v := (.int e3)) Ar_430.1 (State.isArrayOf_alike hZ_418.alike Ar_430.2.1) Ar_430.2.2 in_430 (Has.at H_430 in_430 rfl) (g := (mkF m 450 #[.val (.int p1), .val (.int p2), .val (.long q3), .second, .val (.int p4), .val (.int p5), .val (.int p6), .val (.int (p1 &&& (3 : Int32))), .val (.ref b_1), .val (.int (7 : Int32)), .val (.ref b_360), .val (.ref b_392), .val (.int i_420), .val (.int z13), .unset, .unset] [(.int (3 : Int32)), (.ref b_360)])) rfl rfl (hb hby at_450)) ?_
                show own_Go p e below _ (T_418.setTop (mkF m 451 #[.val (.int p1), .val (.int p2), .val (.long q3), .second, .val (.int p4), .val (.int p5), .val (.int p6), .val (.int (p1 &&& (3 : Int32))), .val (.ref b_1), .val (.int (7 : Int32)), .val (.ref b_360), .val (.ref b_392), .val (.int i_420), .val (.int z13), .unset, .unset] [(.int e3)]))
                refine own_via (fun _ => XS.bipush X_418.here hx rfl (hb hby at_451)) ?_
                show own_Go p e below _ (T_418.setTop (mkF m 453 #[.val (.int p1), .val (.int p2), .val (.long q3), .second, .val (.int p4), .val (.int p5), .val (.int p6), .val (.int (p1 &&& (3 : Int32))), .val (.ref b_1), .val (.int (7 : Int32)), .val (.ref b_360), .val (.ref b_392), .val (.int i_420), .val (.int z13), .unset, .unset] [(.int (108 : Int32)), (.int e3)]))
                by_cases hv_431 : e3 = (108 : Int32)
                · refine own_via (fun _ => XS.icmpNo X_418.here hx rfl (hb hby at_453) rfl (teq (hv_431 : e3 = (108 : Int32))).2) ?_
                  show own_Go p e below _ (T_418.setTop (mkF m 456 #[.val (.int p1), .val (.int p2), .val (.long q3), .second, .val (.int p4), .val (.int p5), .val (.int p6), .val (.int (p1 &&& (3 : Int32))), .val (.ref b_1), .val (.int (7 : Int32)), .val (.ref b_360), .val (.ref b_392), .val (.int i_420), .val (.int z13), .unset, .unset] []))
                  refine own_via (fun _ => XS.aload X_418.here hx rfl (hb hby at_456) rfl rfl) ?_
                  show own_Go p e below _ (T_418.setTop (mkF m 458 #[.val (.int p1), .val (.int p2), .val (.long q3), .second, .val (.int p4), .val (.int p5), .val (.int p6), .val (.int (p1 &&& (3 : Int32))), .val (.ref b_1), .val (.int (7 : Int32)), .val (.ref b_360), .val (.ref b_392), .val (.int i_420), .val (.int z13), .unset, .unset] [(.ref b_360)]))
                  refine own_via (fun _ => XS.iconst X_418.here hx rfl (hb hby at_458)) ?_
                  show own_Go p e below _ (T_418.setTop (mkF m 459 #[.val (.int p1), .val (.int p2), .val (.long q3), .second, .val (.int p4), .val (.int p5), .val (.int p6), .val (.int (p1 &&& (3 : Int32))), .val (.ref b_1), .val (.int (7 : Int32)), .val (.ref b_360), .val (.ref b_392), .val (.int i_420), .val (.int z13), .unset, .unset] [(.int (4 : Int32)), (.ref b_360)]))
                  obtain ⟨cl_432, Ar_432, q_432, S_432, M_432, H_432, G_432⟩ := (id (V_391.keep K_423 nin0))
                  have in_432 : ¬ ((4 : Int32) < 0 ∨ cl_432.slots.size ≤ ((4 : Int32)).toNatClampNeg) := inb_of S_432 ⟨by decide, by decide⟩
                  refine own_via (X_418.caload hx (j := (4 : Int32)) (v := (.int e4)) Ar_432.1 (State.isArrayOf_alike hZ_418.alike Ar_432.2.1) Ar_432.2.2 in_432 (Has.at H_432 in_432 rfl) (g := (mkF m 459 #[.val (.int p1), .val (.int p2), .val (.long q3), .second, .val (.int p4), .val (.int p5), .val (.int p6), .val (.int (p1 &&& (3 : Int32))), .val (.ref b_1), .val (.int (7 : Int32)), .val (.ref b_360), .val (.ref b_392), .val (.int i_420), .val (.int z13), .unset, .unset] [(.int (4 : Int32)), (.ref b_360)])) rfl rfl (hb hby at_459)) ?_
                  show own_Go p e below _ (T_418.setTop (mkF m 460 #[.val (.int p1), .val (.int p2), .val (.long q3), .second, .val (.int p4), .val (.int p5), .val (.int p6), .val (.int (p1 &&& (3 : Int32))), .val (.ref b_1), .val (.int (7 : Int32)), .val (.ref b_360), .val (.ref b_392), .val (.int i_420), .val (.int z13), .unset, .unset] [(.int e4)]))
                  refine own_via (fun _ => XS.bipush X_418.here hx rfl (hb hby at_460)) ?_
                  show own_Go p e below _ (T_418.setTop (mkF m 462 #[.val (.int p1), .val (.int p2), .val (.long q3), .second, .val (.int p4), .val (.int p5), .val (.int p6), .val (.int (p1 &&& (3 : Int32))), .val (.ref b_1), .val (.int (7 : Int32)), .val (.ref b_360), .val (.ref b_392), .val (.int i_420), .val (.int z13), .unset, .unset] [(.int (101 : Int32)), (.int e4)]))
                  by_cases hv_433 : e4 = (101 : Int32)
                  · refine own_via (fun _ => XS.icmpNo X_418.here hx rfl (hb hby at_462) rfl (teq (hv_433 : e4 = (101 : Int32))).2) ?_
                    show own_Go p e below _ (T_418.setTop (mkF m 465 #[.val (.int p1), .val (.int p2), .val (.long q3), .second, .val (.int p4), .val (.int p5), .val (.int p6), .val (.int (p1 &&& (3 : Int32))), .val (.ref b_1), .val (.int (7 : Int32)), .val (.ref b_360), .val (.ref b_392), .val (.int i_420), .val (.int z13), .unset, .unset] []))
                    refine own_via (fun _ => XS.aload X_418.here hx rfl (hb hby at_465) rfl rfl) ?_
                    show own_Go p e below _ (T_418.setTop (mkF m 467 #[.val (.int p1), .val (.int p2), .val (.long q3), .second, .val (.int p4), .val (.int p5), .val (.int p6), .val (.int (p1 &&& (3 : Int32))), .val (.ref b_1), .val (.int (7 : Int32)), .val (.ref b_360), .val (.ref b_392), .val (.int i_420), .val (.int z13), .unset, .unset] [(.ref b_360)]))
                    refine own_via (fun _ => XS.iconst X_418.here hx rfl (hb hby at_467)) ?_
                    show own_Go p e below _ (T_418.setTop (mkF m 468 #[.val (.int p1), .val (.int p2), .val (.long q3), .second, .val (.int p4), .val (.int p5), .val (.int p6), .val (.int (p1 &&& (3 : Int32))), .val (.ref b_1), .val (.int (7 : Int32)), .val (.ref b_360), .val (.ref b_392), .val (.int i_420), .val (.int z13), .unset, .unset] [(.int (5 : Int32)), (.ref b_360)]))
                    obtain ⟨cl_434, Ar_434, q_434, S_434, M_434, H_434, G_434⟩ := (id (V_391.keep K_423 nin0))
                    have in_434 : ¬ ((5 : Int32) < 0 ∨ cl_434.slots.size ≤ ((5 : Int32)).toNatClampNeg) := inb_of S_434 ⟨by decide, by decide⟩
                    refine own_via (X_418.caload hx (j := (5 : Int32)) (v := (.int e5)) Ar_434.1 (State.isArrayOf_alike hZ_418.alike Ar_434.2.1) Ar_434.2.2 in_434 (Has.at H_434 in_434 rfl) (g := (mkF m 468 #[.val (.int p1), .val (.int p2), .val (.long q3), .second, .val (.int p4), .val (.int p5), .val (.int p6), .val (.int (p1 &&& (3 : Int32))), .val (.ref b_1), .val (.int (7 : Int32)), .val (.ref b_360), .val (.ref b_392), .val (.int i_420), .val (.int z13), .unset, .unset] [(.int (5 : Int32)), (.ref b_360)])) rfl rfl (hb hby at_468)) ?_
                    show own_Go p e below _ (T_418.setTop (mkF m 469 #[.val (.int p1), .val (.int p2), .val (.long q3), .second, .val (.int p4), .val (.int p5), .val (.int p6), .val (.int (p1 &&& (3 : Int32))), .val (.ref b_1), .val (.int (7 : Int32)), .val (.ref b_360), .val (.ref b_392), .val (.int i_420), .val (.int z13), .unset, .unset] [(.int e5)]))
                    refine own_via (fun _ => XS.bipush X_418.here hx rfl (hb hby at_469)) ?_
                    show own_Go p e below _ (T_418.setTop (mkF m 471 #[.val (.int p1), .val (.int p2), .val (.long q3), .second, .val (.int p4), .val (.int p5), .val (.int p6), .val (.int (p1 &&& (3 : Int32))), .val (.ref b_1), .val (.int (7 : Int32)), .val (.ref b_360), .val (.ref b_392), .val (.int i_420), .val (.int z13), .unset, .unset] [(.int (97 : Int32)), (.int e5)]))
                    by_cases hv_435 : e5 = (97 : Int32)
                    · refine own_via (fun _ => XS.icmpNo X_418.here hx rfl (hb hby at_471) rfl (teq (hv_435 : e5 = (97 : Int32))).2) ?_
                      show own_Go p e below _ (T_418.setTop (mkF m 474 #[.val (.int p1), .val (.int p2), .val (.long q3), .second, .val (.int p4), .val (.int p5), .val (.int p6), .val (.int (p1 &&& (3 : Int32))), .val (.ref b_1), .val (.int (7 : Int32)), .val (.ref b_360), .val (.ref b_392), .val (.int i_420), .val (.int z13), .unset, .unset] []))
                      refine own_via (fun _ => XS.aload X_418.here hx rfl (hb hby at_474) rfl rfl) ?_
                      show own_Go p e below _ (T_418.setTop (mkF m 476 #[.val (.int p1), .val (.int p2), .val (.long q3), .second, .val (.int p4), .val (.int p5), .val (.int p6), .val (.int (p1 &&& (3 : Int32))), .val (.ref b_1), .val (.int (7 : Int32)), .val (.ref b_360), .val (.ref b_392), .val (.int i_420), .val (.int z13), .unset, .unset] [(.ref b_360)]))
                      refine own_via (fun _ => XS.bipush X_418.here hx rfl (hb hby at_476)) ?_
                      show own_Go p e below _ (T_418.setTop (mkF m 478 #[.val (.int p1), .val (.int p2), .val (.long q3), .second, .val (.int p4), .val (.int p5), .val (.int p6), .val (.int (p1 &&& (3 : Int32))), .val (.ref b_1), .val (.int (7 : Int32)), .val (.ref b_360), .val (.ref b_392), .val (.int i_420), .val (.int z13), .unset, .unset] [(.int (6 : Int32)), (.ref b_360)]))
                      obtain ⟨cl_436, Ar_436, q_436, S_436, M_436, H_436, G_436⟩ := (id (V_391.keep K_423 nin0))
                      have in_436 : ¬ ((6 : Int32) < 0 ∨ cl_436.slots.size ≤ ((6 : Int32)).toNatClampNeg) := inb_of S_436 ⟨by decide, by decide⟩
                      refine own_via (X_418.caload hx (j := (6 : Int32)) (v := (.int e6)) Ar_436.1 (State.isArrayOf_alike hZ_418.alike Ar_436.2.1) Ar_436.2.2 in_436 (Has.at H_436 in_436 rfl) (g := (mkF m 478 #[.val (.int p1), .val (.int p2), .val (.long q3), .second, .val (.int p4), .val (.int p5), .val (.int p6), .val (.int (p1 &&& (3 : Int32))), .val (.ref b_1), .val (.int (7 : Int32)), .val (.ref b_360), .val (.ref b_392), .val (.int i_420), .val (.int z13), .unset, .unset] [(.int (6 : Int32)), (.ref b_360)])) rfl rfl (hb hby at_478)) ?_
                      show own_Go p e below _ (T_418.setTop (mkF m 479 #[.val (.int p1), .val (.int p2), .val (.long q3), .second, .val (.int p4), .val (.int p5), .val (.int p6), .val (.int (p1 &&& (3 : Int32))), .val (.ref b_1), .val (.int (7 : Int32)), .val (.ref b_360), .val (.ref b_392), .val (.int i_420), .val (.int z13), .unset, .unset] [(.int e6)]))
                      refine own_via (fun _ => XS.bipush X_418.here hx rfl (hb hby at_479)) ?_
                      show own_Go p e below _ (T_418.setTop (mkF m 481 #[.val (.int p1), .val (.int p2), .val (.long q3), .second, .val (.int p4), .val (.int p5), .val (.int p6), .val (.int (p1 &&& (3 : Int32))), .val (.ref b_1), .val (.int (7 : Int32)), .val (.ref b_360), .val (.ref b_392), .val (.int i_420), .val (.int z13), .unset, .unset] [(.int (110 : Int32)), (.int e6)]))
                      by_cases hv_437 : e6 = (110 : Int32)
                      · refine own_via (fun _ => XS.icmpNo X_418.here hx rfl (hb hby at_481) rfl (teq (hv_437 : e6 = (110 : Int32))).2) ?_
                        show own_Go p e below _ (T_418.setTop (mkF m 484 #[.val (.int p1), .val (.int p2), .val (.long q3), .second, .val (.int p4), .val (.int p5), .val (.int p6), .val (.int (p1 &&& (3 : Int32))), .val (.ref b_1), .val (.int (7 : Int32)), .val (.ref b_360), .val (.ref b_392), .val (.int i_420), .val (.int z13), .unset, .unset] []))
                        refine own_via (fun _ => XS.iconst X_418.here hx rfl (hb hby at_484)) ?_
                        show own_Go p e below _ (T_418.setTop (mkF m 485 #[.val (.int p1), .val (.int p2), .val (.long q3), .second, .val (.int p4), .val (.int p5), .val (.int p6), .val (.int (p1 &&& (3 : Int32))), .val (.ref b_1), .val (.int (7 : Int32)), .val (.ref b_360), .val (.ref b_392), .val (.int i_420), .val (.int z13), .unset, .unset] [(.int (1 : Int32))]))
                        refine own_via (fun _ => XS.goto X_418.here hx rfl (pc0 := 485) (pc' := 489) rfl (hb hby at_485) (by decide) (by decide)) ?_
                        show own_Go p e below _ (T_418.setTop (mkF m 489 #[.val (.int p1), .val (.int p2), .val (.long q3), .second, .val (.int p4), .val (.int p5), .val (.int p6), .val (.int (p1 &&& (3 : Int32))), .val (.ref b_1), .val (.int (7 : Int32)), .val (.ref b_360), .val (.ref b_392), .val (.int i_420), .val (.int z13), .unset, .unset] [(.int (1 : Int32))]))
                        rw [if_pos hv_425] at ez14
                        rw [if_pos hv_427] at ez14
                        rw [if_pos hv_429] at ez14
                        rw [if_pos hv_431] at ez14
                        rw [if_pos hv_433] at ez14
                        rw [if_pos hv_435] at ez14
                        rw [if_pos hv_437] at ez14
                        subst ez14
                        exact kz
                      · refine own_via (fun _ => XS.icmpYes X_418.here hx rfl (pc0 := 481) (pc' := 488) rfl (hb hby at_481) rfl (feq (hv_437 : ¬ (e6 = (110 : Int32)))).2 (by decide) (by decide)) ?_
                        show own_Go p e below _ (T_418.setTop (mkF m 488 #[.val (.int p1), .val (.int p2), .val (.long q3), .second, .val (.int p4), .val (.int p5), .val (.int p6), .val (.int (p1 &&& (3 : Int32))), .val (.ref b_1), .val (.int (7 : Int32)), .val (.ref b_360), .val (.ref b_392), .val (.int i_420), .val (.int z13), .unset, .unset] []))
                        refine own_via (fun _ => XS.iconst X_418.here hx rfl (hb hby at_488)) ?_
                        show own_Go p e below _ (T_418.setTop (mkF m 489 #[.val (.int p1), .val (.int p2), .val (.long q3), .second, .val (.int p4), .val (.int p5), .val (.int p6), .val (.int (p1 &&& (3 : Int32))), .val (.ref b_1), .val (.int (7 : Int32)), .val (.ref b_360), .val (.ref b_392), .val (.int i_420), .val (.int z13), .unset, .unset] [(.int (0 : Int32))]))
                        rw [if_pos hv_425] at ez14
                        rw [if_pos hv_427] at ez14
                        rw [if_pos hv_429] at ez14
                        rw [if_pos hv_431] at ez14
                        rw [if_pos hv_433] at ez14
                        rw [if_pos hv_435] at ez14
                        rw [if_neg hv_437] at ez14
                        subst ez14
                        exact kz
                    · refine own_via (fun _ => XS.icmpYes X_418.here hx rfl (pc0 := 471) (pc' := 488) rfl (hb hby at_471) rfl (feq (hv_435 : ¬ (e5 = (97 : Int32)))).2 (by decide) (by decide)) ?_
                      show own_Go p e below _ (T_418.setTop (mkF m 488 #[.val (.int p1), .val (.int p2), .val (.long q3), .second, .val (.int p4), .val (.int p5), .val (.int p6), .val (.int (p1 &&& (3 : Int32))), .val (.ref b_1), .val (.int (7 : Int32)), .val (.ref b_360), .val (.ref b_392), .val (.int i_420), .val (.int z13), .unset, .unset] []))
                      refine own_via (fun _ => XS.iconst X_418.here hx rfl (hb hby at_488)) ?_
                      show own_Go p e below _ (T_418.setTop (mkF m 489 #[.val (.int p1), .val (.int p2), .val (.long q3), .second, .val (.int p4), .val (.int p5), .val (.int p6), .val (.int (p1 &&& (3 : Int32))), .val (.ref b_1), .val (.int (7 : Int32)), .val (.ref b_360), .val (.ref b_392), .val (.int i_420), .val (.int z13), .unset, .unset] [(.int (0 : Int32))]))
                      rw [if_pos hv_425] at ez14
                      rw [if_pos hv_427] at ez14
                      rw [if_pos hv_429] at ez14
                      rw [if_pos hv_431] at ez14
                      rw [if_pos hv_433] at ez14
                      rw [if_neg hv_435] at ez14
                      subst ez14
                      exact kz
                  · refine own_via (fun _ => XS.icmpYes X_418.here hx rfl (pc0 := 462) (pc' := 488) rfl (hb hby at_462) rfl (feq (hv_433 : ¬ (e4 = (101 : Int32)))).2 (by decide) (by decide)) ?_
                    show own_Go p e below _ (T_418.setTop (mkF m 488 #[.val (.int p1), .val (.int p2), .val (.long q3), .second, .val (.int p4), .val (.int p5), .val (.int p6), .val (.int (p1 &&& (3 : Int32))), .val (.ref b_1), .val (.int (7 : Int32)), .val (.ref b_360), .val (.ref b_392), .val (.int i_420), .val (.int z13), .unset, .unset] []))
                    refine own_via (fun _ => XS.iconst X_418.here hx rfl (hb hby at_488)) ?_
                    show own_Go p e below _ (T_418.setTop (mkF m 489 #[.val (.int p1), .val (.int p2), .val (.long q3), .second, .val (.int p4), .val (.int p5), .val (.int p6), .val (.int (p1 &&& (3 : Int32))), .val (.ref b_1), .val (.int (7 : Int32)), .val (.ref b_360), .val (.ref b_392), .val (.int i_420), .val (.int z13), .unset, .unset] [(.int (0 : Int32))]))
                    rw [if_pos hv_425] at ez14
                    rw [if_pos hv_427] at ez14
                    rw [if_pos hv_429] at ez14
                    rw [if_pos hv_431] at ez14
                    rw [if_neg hv_433] at ez14
                    subst ez14
                    exact kz
                · refine own_via (fun _ => XS.icmpYes X_418.here hx rfl (pc0 := 453) (pc' := 488) rfl (hb hby at_453) rfl (feq (hv_431 : ¬ (e3 = (108 : Int32)))).2 (by decide) (by decide)) ?_
                  show own_Go p e below _ (T_418.setTop (mkF m 488 #[.val (.int p1), .val (.int p2), .val (.long q3), .second, .val (.int p4), .val (.int p5), .val (.int p6), .val (.int (p1 &&& (3 : Int32))), .val (.ref b_1), .val (.int (7 : Int32)), .val (.ref b_360), .val (.ref b_392), .val (.int i_420), .val (.int z13), .unset, .unset] []))
                  refine own_via (fun _ => XS.iconst X_418.here hx rfl (hb hby at_488)) ?_
                  show own_Go p e below _ (T_418.setTop (mkF m 489 #[.val (.int p1), .val (.int p2), .val (.long q3), .second, .val (.int p4), .val (.int p5), .val (.int p6), .val (.int (p1 &&& (3 : Int32))), .val (.ref b_1), .val (.int (7 : Int32)), .val (.ref b_360), .val (.ref b_392), .val (.int i_420), .val (.int z13), .unset, .unset] [(.int (0 : Int32))]))
                  rw [if_pos hv_425] at ez14
                  rw [if_pos hv_427] at ez14
                  rw [if_pos hv_429] at ez14
                  rw [if_neg hv_431] at ez14
                  subst ez14
                  exact kz
              · refine own_via (fun _ => XS.icmpYes X_418.here hx rfl (pc0 := 444) (pc' := 488) rfl (hb hby at_444) rfl (feq (hv_429 : ¬ (e2 = (111 : Int32)))).2 (by decide) (by decide)) ?_
                show own_Go p e below _ (T_418.setTop (mkF m 488 #[.val (.int p1), .val (.int p2), .val (.long q3), .second, .val (.int p4), .val (.int p5), .val (.int p6), .val (.int (p1 &&& (3 : Int32))), .val (.ref b_1), .val (.int (7 : Int32)), .val (.ref b_360), .val (.ref b_392), .val (.int i_420), .val (.int z13), .unset, .unset] []))
                refine own_via (fun _ => XS.iconst X_418.here hx rfl (hb hby at_488)) ?_
                show own_Go p e below _ (T_418.setTop (mkF m 489 #[.val (.int p1), .val (.int p2), .val (.long q3), .second, .val (.int p4), .val (.int p5), .val (.int p6), .val (.int (p1 &&& (3 : Int32))), .val (.ref b_1), .val (.int (7 : Int32)), .val (.ref b_360), .val (.ref b_392), .val (.int i_420), .val (.int z13), .unset, .unset] [(.int (0 : Int32))]))
                rw [if_pos hv_425] at ez14
                rw [if_pos hv_427] at ez14
                rw [if_neg hv_429] at ez14
                subst ez14
                exact kz
            · refine own_via (fun _ => XS.icmpYes X_418.here hx rfl (pc0 := 435) (pc' := 488) rfl (hb hby at_435) rfl (feq (hv_427 : ¬ (e1 = (111 : Int32)))).2 (by decide) (by decide)) ?_
              show own_Go p e below _ (T_418.setTop (mkF m 488 #[.val (.int p1), .val (.int p2), .val (.long q3), .second, .val (.int p4), .val (.int p5), .val (.int p6), .val (.int (p1 &&& (3 : Int32))), .val (.ref b_1), .val (.int (7 : Int32)), .val (.ref b_360), .val (.ref b_392), .val (.int i_420), .val (.int z13), .unset, .unset] []))
              refine own_via (fun _ => XS.iconst X_418.here hx rfl (hb hby at_488)) ?_
              show own_Go p e below _ (T_418.setTop (mkF m 489 #[.val (.int p1), .val (.int p2), .val (.long q3), .second, .val (.int p4), .val (.int p5), .val (.int p6), .val (.int (p1 &&& (3 : Int32))), .val (.ref b_1), .val (.int (7 : Int32)), .val (.ref b_360), .val (.ref b_392), .val (.int i_420), .val (.int z13), .unset, .unset] [(.int (0 : Int32))]))
              rw [if_pos hv_425] at ez14
              rw [if_neg hv_427] at ez14
              subst ez14
              exact kz
          · refine own_via (fun _ => XS.icmpYes X_418.here hx rfl (pc0 := 426) (pc' := 488) rfl (hb hby at_426) rfl (feq (hv_425 : ¬ (e0 = (98 : Int32)))).2 (by decide) (by decide)) ?_
            show own_Go p e below _ (T_418.setTop (mkF m 488 #[.val (.int p1), .val (.int p2), .val (.long q3), .second, .val (.int p4), .val (.int p5), .val (.int p6), .val (.int (p1 &&& (3 : Int32))), .val (.ref b_1), .val (.int (7 : Int32)), .val (.ref b_360), .val (.ref b_392), .val (.int i_420), .val (.int z13), .unset, .unset] []))
            refine own_via (fun _ => XS.iconst X_418.here hx rfl (hb hby at_488)) ?_
            show own_Go p e below _ (T_418.setTop (mkF m 489 #[.val (.int p1), .val (.int p2), .val (.long q3), .second, .val (.int p4), .val (.int p5), .val (.int p6), .val (.int (p1 &&& (3 : Int32))), .val (.ref b_1), .val (.int (7 : Int32)), .val (.ref b_360), .val (.ref b_392), .val (.int i_420), .val (.int z13), .unset, .unset] [(.int (0 : Int32))]))
            rw [if_neg hv_425] at ez14
            subst ez14
            exact kz
        show own_Go p e below _ (T_418.setTop (mkF m 489 #[.val (.int p1), .val (.int p2), .val (.long q3), .second, .val (.int p4), .val (.int p5), .val (.int p6), .val (.int (p1 &&& (3 : Int32))), .val (.ref b_1), .val (.int (7 : Int32)), .val (.ref b_360), .val (.ref b_392), .val (.int i_420), .val (.int z13), .unset, .unset] [(.int z14)]))
        refine own_via (fun _ => XS.istore X_418.here hx rfl (hb hby at_489) rfl (l' := #[.val (.int p1), .val (.int p2), .val (.long q3), .second, .val (.int p4), .val (.int p5), .val (.int p6), .val (.int (p1 &&& (3 : Int32))), .val (.ref b_1), .val (.int (7 : Int32)), .val (.ref b_360), .val (.ref b_392), .val (.int i_420), .val (.int z13), .val (.int z14), .unset]) rfl) ?_
        show own_Go p e below _ (T_418.setTop (mkF m 491 #[.val (.int p1), .val (.int p2), .val (.long q3), .second, .val (.int p4), .val (.int p5), .val (.int p6), .val (.int (p1 &&& (3 : Int32))), .val (.ref b_1), .val (.int (7 : Int32)), .val (.ref b_360), .val (.ref b_392), .val (.int i_420), .val (.int z13), .val (.int z14), .unset] []))
        refine own_via (fun _ => XS.iload X_418.here hx rfl (hb hby at_491) rfl) ?_
        show own_Go p e below _ (T_418.setTop (mkF m 493 #[.val (.int p1), .val (.int p2), .val (.long q3), .second, .val (.int p4), .val (.int p5), .val (.int p6), .val (.int (p1 &&& (3 : Int32))), .val (.ref b_1), .val (.int (7 : Int32)), .val (.ref b_360), .val (.ref b_392), .val (.int i_420), .val (.int z13), .val (.int z14), .unset] [(.int z13)]))
        obtain ⟨z15, ez15⟩ : ∃ z : Int32, z = (if z13 = (0 : Int32) then (if z14 = (0 : Int32) then (1 : Int32) else (0 : Int32)) else (0 : Int32)) := ⟨_, rfl⟩
        refine own_seq (B := T_418.setTop (mkF m 506 #[.val (.int p1), .val (.int p2), .val (.long q3), .second, .val (.int p4), .val (.int p5), .val (.int p6), .val (.int (p1 &&& (3 : Int32))), .val (.ref b_1), .val (.int (7 : Int32)), .val (.ref b_360), .val (.ref b_392), .val (.int i_420), .val (.int z13), .val (.int z14), .unset] [(.int z15)])) (fun kz => ?_) ?_
        · by_cases hv_438 : z13 = (0 : Int32)
          · refine own_via (fun _ => XS.ifNo X_418.here hx rfl (hb hby at_493) rfl ((if0 _ _).trans (teq (hv_438 : z13 = (0 : Int32))).2)) ?_
            show own_Go p e below _ (T_418.setTop (mkF m 496 #[.val (.int p1), .val (.int p2), .val (.long q3), .second, .val (.int p4), .val (.int p5), .val (.int p6), .val (.int (p1 &&& (3 : Int32))), .val (.ref b_1), .val (.int (7 : Int32)), .val (.ref b_360), .val (.ref b_392), .val (.int i_420), .val (.int z13), .val (.int z14), .unset] []))
            refine own_via (fun _ => XS.iload X_418.here hx rfl (hb hby at_496) rfl) ?_
            show own_Go p e below _ (T_418.setTop (mkF m 498 #[.val (.int p1), .val (.int p2), .val (.long q3), .second, .val (.int p4), .val (.int p5), .val (.int p6), .val (.int (p1 &&& (3 : Int32))), .val (.ref b_1), .val (.int (7 : Int32)), .val (.ref b_360), .val (.ref b_392), .val (.int i_420), .val (.int z13), .val (.int z14), .unset] [(.int z14)]))
            by_cases hv_439 : z14 = (0 : Int32)
            · refine own_via (fun _ => XS.ifNo X_418.here hx rfl (hb hby at_498) rfl ((if0 _ _).trans (teq (hv_439 : z14 = (0 : Int32))).2)) ?_
              show own_Go p e below _ (T_418.setTop (mkF m 501 #[.val (.int p1), .val (.int p2), .val (.long q3), .second, .val (.int p4), .val (.int p5), .val (.int p6), .val (.int (p1 &&& (3 : Int32))), .val (.ref b_1), .val (.int (7 : Int32)), .val (.ref b_360), .val (.ref b_392), .val (.int i_420), .val (.int z13), .val (.int z14), .unset] []))
              refine own_via (fun _ => XS.iconst X_418.here hx rfl (hb hby at_501)) ?_
              show own_Go p e below _ (T_418.setTop (mkF m 502 #[.val (.int p1), .val (.int p2), .val (.long q3), .second, .val (.int p4), .val (.int p5), .val (.int p6), .val (.int (p1 &&& (3 : Int32))), .val (.ref b_1), .val (.int (7 : Int32)), .val (.ref b_360), .val (.ref b_392), .val (.int i_420), .val (.int z13), .val (.int z14), .unset] [(.int (1 : Int32))]))
              refine own_via (fun _ => XS.goto X_418.here hx rfl (pc0 := 502) (pc' := 506) rfl (hb hby at_502) (by decide) (by decide)) ?_
              show own_Go p e below _ (T_418.setTop (mkF m 506 #[.val (.int p1), .val (.int p2), .val (.long q3), .second, .val (.int p4), .val (.int p5), .val (.int p6), .val (.int (p1 &&& (3 : Int32))), .val (.ref b_1), .val (.int (7 : Int32)), .val (.ref b_360), .val (.ref b_392), .val (.int i_420), .val (.int z13), .val (.int z14), .unset] [(.int (1 : Int32))]))
              rw [if_pos hv_438] at ez15
              rw [if_pos hv_439] at ez15
              subst ez15
              exact kz
            · refine own_via (fun _ => XS.ifYes X_418.here hx rfl (pc0 := 498) (pc' := 505) rfl (hb hby at_498) rfl ((if0 _ _).trans (feq (hv_439 : ¬ (z14 = (0 : Int32)))).2) (by decide) (by decide)) ?_
              show own_Go p e below _ (T_418.setTop (mkF m 505 #[.val (.int p1), .val (.int p2), .val (.long q3), .second, .val (.int p4), .val (.int p5), .val (.int p6), .val (.int (p1 &&& (3 : Int32))), .val (.ref b_1), .val (.int (7 : Int32)), .val (.ref b_360), .val (.ref b_392), .val (.int i_420), .val (.int z13), .val (.int z14), .unset] []))
              refine own_via (fun _ => XS.iconst X_418.here hx rfl (hb hby at_505)) ?_
              show own_Go p e below _ (T_418.setTop (mkF m 506 #[.val (.int p1), .val (.int p2), .val (.long q3), .second, .val (.int p4), .val (.int p5), .val (.int p6), .val (.int (p1 &&& (3 : Int32))), .val (.ref b_1), .val (.int (7 : Int32)), .val (.ref b_360), .val (.ref b_392), .val (.int i_420), .val (.int z13), .val (.int z14), .unset] [(.int (0 : Int32))]))
              rw [if_pos hv_438] at ez15
              rw [if_neg hv_439] at ez15
              subst ez15
              exact kz
          · refine own_via (fun _ => XS.ifYes X_418.here hx rfl (pc0 := 493) (pc' := 505) rfl (hb hby at_493) rfl ((if0 _ _).trans (feq (hv_438 : ¬ (z13 = (0 : Int32)))).2) (by decide) (by decide)) ?_
            show own_Go p e below _ (T_418.setTop (mkF m 505 #[.val (.int p1), .val (.int p2), .val (.long q3), .second, .val (.int p4), .val (.int p5), .val (.int p6), .val (.int (p1 &&& (3 : Int32))), .val (.ref b_1), .val (.int (7 : Int32)), .val (.ref b_360), .val (.ref b_392), .val (.int i_420), .val (.int z13), .val (.int z14), .unset] []))
            refine own_via (fun _ => XS.iconst X_418.here hx rfl (hb hby at_505)) ?_
            show own_Go p e below _ (T_418.setTop (mkF m 506 #[.val (.int p1), .val (.int p2), .val (.long q3), .second, .val (.int p4), .val (.int p5), .val (.int p6), .val (.int (p1 &&& (3 : Int32))), .val (.ref b_1), .val (.int (7 : Int32)), .val (.ref b_360), .val (.ref b_392), .val (.int i_420), .val (.int z13), .val (.int z14), .unset] [(.int (0 : Int32))]))
            rw [if_neg hv_438] at ez15
            subst ez15
            exact kz
        show own_Go p e below _ (T_418.setTop (mkF m 506 #[.val (.int p1), .val (.int p2), .val (.long q3), .second, .val (.int p4), .val (.int p5), .val (.int p6), .val (.int (p1 &&& (3 : Int32))), .val (.ref b_1), .val (.int (7 : Int32)), .val (.ref b_360), .val (.ref b_392), .val (.int i_420), .val (.int z13), .val (.int z14), .unset] [(.int z15)]))
        refine own_via (fun _ => XS.istore X_418.here hx rfl (hb hby at_506) rfl (l' := #[.val (.int p1), .val (.int p2), .val (.long q3), .second, .val (.int p4), .val (.int p5), .val (.int p6), .val (.int (p1 &&& (3 : Int32))), .val (.ref b_1), .val (.int (7 : Int32)), .val (.ref b_360), .val (.ref b_392), .val (.int i_420), .val (.int z13), .val (.int z14), .val (.int z15)]) rfl) ?_
        show own_Go p e below _ (T_418.setTop (mkF m 508 #[.val (.int p1), .val (.int p2), .val (.long q3), .second, .val (.int p4), .val (.int p5), .val (.int p6), .val (.int (p1 &&& (3 : Int32))), .val (.ref b_1), .val (.int (7 : Int32)), .val (.ref b_360), .val (.ref b_392), .val (.int i_420), .val (.int z13), .val (.int z14), .val (.int z15)] []))
        refine own_via (fun _ => XS.iload X_418.here hx rfl (hb hby at_508) rfl) ?_
        show own_Go p e below _ (T_418.setTop (mkF m 510 #[.val (.int p1), .val (.int p2), .val (.long q3), .second, .val (.int p4), .val (.int p5), .val (.int p6), .val (.int (p1 &&& (3 : Int32))), .val (.ref b_1), .val (.int (7 : Int32)), .val (.ref b_360), .val (.ref b_392), .val (.int i_420), .val (.int z13), .val (.int z14), .val (.int z15)] [(.int i_420)]))
        refine own_via (fun _ => XS.iload X_418.here hx rfl (hb hby at_510) rfl) ?_
        show own_Go p e below _ (T_418.setTop (mkF m 512 #[.val (.int p1), .val (.int p2), .val (.long q3), .second, .val (.int p4), .val (.int p5), .val (.int p6), .val (.int (p1 &&& (3 : Int32))), .val (.ref b_1), .val (.int (7 : Int32)), .val (.ref b_360), .val (.ref b_392), .val (.int i_420), .val (.int z13), .val (.int z14), .val (.int z15)] [(.int z15), (.int i_420)]))
        refine own_via (fun _ => XS.icmpNo X_418.here hx rfl (hb hby at_512) rfl (teq (own_fin q_418_0 (own_no (by simp) ez13) (own_b7 ez14) ez15 : i_420 = z15)).2) ?_
        show own_Go p e below _ (T_418.setTop (mkF m 515 #[.val (.int p1), .val (.int p2), .val (.long q3), .second, .val (.int p4), .val (.int p5), .val (.int p6), .val (.int (p1 &&& (3 : Int32))), .val (.ref b_1), .val (.int (7 : Int32)), .val (.ref b_360), .val (.ref b_392), .val (.int i_420), .val (.int z13), .val (.int z14), .val (.int z15)] []))
        refine own_via (fun _ => XS.iconst X_418.here hx rfl (hb hby at_515)) ?_
        show own_Go p e below _ (T_418.setTop (mkF m 516 #[.val (.int p1), .val (.int p2), .val (.long q3), .second, .val (.int p4), .val (.int p5), .val (.int p6), .val (.int (p1 &&& (3 : Int32))), .val (.ref b_1), .val (.int (7 : Int32)), .val (.ref b_360), .val (.ref b_392), .val (.int i_420), .val (.int z13), .val (.int z14), .val (.int z15)] [(.int (1 : Int32))]))
        refine own_via (fun _ => XS.goto X_418.here hx rfl (pc0 := 516) (pc' := 520) rfl (hb hby at_516) (by decide) (by decide)) ?_
        show own_Go p e below _ (T_418.setTop (mkF m 520 #[.val (.int p1), .val (.int p2), .val (.long q3), .second, .val (.int p4), .val (.int p5), .val (.int p6), .val (.int (p1 &&& (3 : Int32))), .val (.ref b_1), .val (.int (7 : Int32)), .val (.ref b_360), .val (.ref b_392), .val (.int i_420), .val (.int z13), .val (.int z14), .val (.int z15)] [(.int (1 : Int32))]))
        have K_440 : Keep h0 T_418.heap [] := Keep.trans (ws := []) K_417 K_418q all0
        exact own_retvW X_418 hS_418 (Nat.le_refl _) Bd.notSynchronized hx Bd.returns rfl (Or.inl ⟨rfl, (by simp), _, rfl⟩) (hb hby at_520) (by decide) (by decide) ⟨rfl, N_418, K_440⟩
    by_cases hput : (((p1.toUInt32 >>> ((3 : Int32) &&& 31).toUInt32).toInt32) &&& (1 : Int32)) = (0 : Int32)
    · refine own_via (fun _ => XS.ifYes X_34.here hx rfl (pc0 := 156) (pc' := 181) rfl (hb hby at_156) rfl ((if0 _ _).trans (teq (hput : (((p1.toUInt32 >>> ((3 : Int32) &&& 31).toUInt32).toInt32) &&& (1 : Int32)) = (0 : Int32))).1) (by decide) (by decide)) ?_
      show own_Go p e below _ (T_31.setTop (mkF m 181 #[.val (.int p1), .val (.int p2), .val (.long q3), .second, .val (.int p4), .val (.int p5), .val (.int p6), .val (.int (p1 &&& (3 : Int32))), .val (.ref b_1), .unset, .unset, .unset, .unset, .unset, .unset, .unset] []))
      exact kj_35 _ _ b0 hb0 b1 hb1 b2 hb2 b3 hb3 b4 hb4 b5 hb5 b6 hb6 .unset One.u X_34 _ e_34 (own_keep_mono (Keep.refl h_33 []) (by simp)) VB N_34
    · refine own_via (fun _ => XS.ifNo X_34.here hx rfl (hb hby at_156) rfl ((if0 _ _).trans (feq (hput : ¬ ((((p1.toUInt32 >>> ((3 : Int32) &&& 31).toUInt32).toInt32) &&& (1 : Int32)) = (0 : Int32)))).1)) ?_
      show own_Go p e below _ (T_31.setTop (mkF m 159 #[.val (.int p1), .val (.int p2), .val (.long q3), .second, .val (.int p4), .val (.int p5), .val (.int p6), .val (.int (p1 &&& (3 : Int32))), .val (.ref b_1), .unset, .unset, .unset, .unset, .unset, .unset, .unset] []))
      refine own_via (fun _ => XS.iload X_34.here hx rfl (hb hby at_159) rfl) ?_
      show own_Go p e below _ (T_31.setTop (mkF m 161 #[.val (.int p1), .val (.int p2), .val (.long q3), .second, .val (.int p4), .val (.int p5), .val (.int p6), .val (.int (p1 &&& (3 : Int32))), .val (.ref b_1), .unset, .unset, .unset, .unset, .unset, .unset, .unset] [(.int p4)]))
      refine own_via (X_34.ldcInt hx hown (mvT hZ (own_w hw 66 rfl)) (g := (mkF m 161 #[.val (.int p1), .val (.int p2), .val (.long q3), .second, .val (.int p4), .val (.int p5), .val (.int p6), .val (.int (p1 &&& (3 : Int32))), .val (.ref b_1), .unset, .unset, .unset, .unset, .unset, .unset, .unset] [(.int p4)])) rfl (hb hby at_161)) ?_
      show own_Go p e below _ (T_31.setTop (mkF m 163 #[.val (.int p1), .val (.int p2), .val (.long q3), .second, .val (.int p4), .val (.int p5), .val (.int p6), .val (.int (p1 &&& (3 : Int32))), .val (.ref b_1), .unset, .unset, .unset, .unset, .unset, .unset, .unset] [(.int (2147483647 : Int32)), (.int p4)]))
      refine own_via (fun _ => XS.iand X_34.here hx rfl (hb hby at_163) rfl) ?_
      show own_Go p e below _ (T_31.setTop (mkF m 164 #[.val (.int p1), .val (.int p2), .val (.long q3), .second, .val (.int p4), .val (.int p5), .val (.int p6), .val (.int (p1 &&& (3 : Int32))), .val (.ref b_1), .unset, .unset, .unset, .unset, .unset, .unset, .unset] [(.int (p4 &&& (2147483647 : Int32)))]))
      refine own_via (fun _ => XS.bipush X_34.here hx rfl (hb hby at_164)) ?_
      show own_Go p e below _ (T_31.setTop (mkF m 166 #[.val (.int p1), .val (.int p2), .val (.long q3), .second, .val (.int p4), .val (.int p5), .val (.int p6), .val (.int (p1 &&& (3 : Int32))), .val (.ref b_1), .unset, .unset, .unset, .unset, .unset, .unset, .unset] [(.int (7 : Int32)), (.int (p4 &&& (2147483647 : Int32)))]))
      refine own_via (fun _ => iremM (g := (mkF m 166 #[.val (.int p1), .val (.int p2), .val (.long q3), .second, .val (.int p4), .val (.int p5), .val (.int p6), .val (.int (p1 &&& (3 : Int32))), .val (.ref b_1), .unset, .unset, .unset, .unset, .unset, .unset, .unset] [(.int (7 : Int32)), (.int (p4 &&& (2147483647 : Int32)))])) X_34 hx rfl (hb hby at_166) rfl (by decide)) ?_
      show own_Go p e below _ (T_31.setTop (mkF m 167 #[.val (.int p1), .val (.int p2), .val (.long q3), .second, .val (.int p4), .val (.int p5), .val (.int p6), .val (.int (p1 &&& (3 : Int32))), .val (.ref b_1), .unset, .unset, .unset, .unset, .unset, .unset, .unset] [(.int ((p4 &&& (2147483647 : Int32)) % (7 : Int32)))]))
      rcases own_mod7 p4 with hp7 | hp7 | hp7 | hp7 | hp7 | hp7 | hp7
      · rw [hp7]
        show own_Go p e below _ (T_31.setTop (mkF m 167 #[.val (.int p1), .val (.int p2), .val (.long q3), .second, .val (.int p4), .val (.int p5), .val (.int p6), .val (.int (p1 &&& (3 : Int32))), .val (.ref b_1), .unset, .unset, .unset, .unset, .unset, .unset, .unset] [(.int (0 : Int32))]))
        refine own_via (fun _ => XS.istore X_34.here hx rfl (hb hby at_167) rfl (l' := #[.val (.int p1), .val (.int p2), .val (.long q3), .second, .val (.int p4), .val (.int p5), .val (.int p6), .val (.int (p1 &&& (3 : Int32))), .val (.ref b_1), .val (.int (0 : Int32)), .unset, .unset, .unset, .unset, .unset, .unset]) rfl) ?_
        show own_Go p e below _ (T_31.setTop (mkF m 169 #[.val (.int p1), .val (.int p2), .val (.long q3), .second, .val (.int p4), .val (.int p5), .val (.int p6), .val (.int (p1 &&& (3 : Int32))), .val (.ref b_1), .val (.int (0 : Int32)), .unset, .unset, .unset, .unset, .unset, .unset] []))
        refine own_via (fun _ => XS.aload X_34.here hx rfl (hb hby at_169) rfl rfl) ?_
        show own_Go p e below _ (T_31.setTop (mkF m 171 #[.val (.int p1), .val (.int p2), .val (.long q3), .second, .val (.int p4), .val (.int p5), .val (.int p6), .val (.int (p1 &&& (3 : Int32))), .val (.ref b_1), .val (.int (0 : Int32)), .unset, .unset, .unset, .unset, .unset, .unset] [(.ref b_1)]))
        refine own_via (fun _ => XS.iload X_34.here hx rfl (hb hby at_171) rfl) ?_
        show own_Go p e below _ (T_31.setTop (mkF m 173 #[.val (.int p1), .val (.int p2), .val (.long q3), .second, .val (.int p4), .val (.int p5), .val (.int p6), .val (.int (p1 &&& (3 : Int32))), .val (.ref b_1), .val (.int (0 : Int32)), .unset, .unset, .unset, .unset, .unset, .unset] [(.int (0 : Int32)), (.ref b_1)]))
        refine own_via (fun _ => XS.iload X_34.here hx rfl (hb hby at_173) rfl) ?_
        show own_Go p e below _ (T_31.setTop (mkF m 175 #[.val (.int p1), .val (.int p2), .val (.long q3), .second, .val (.int p4), .val (.int p5), .val (.int p6), .val (.int (p1 &&& (3 : Int32))), .val (.ref b_1), .val (.int (0 : Int32)), .unset, .unset, .unset, .unset, .unset, .unset] [(.int p5), (.int (0 : Int32)), (.ref b_1)]))
        refine own_via (fun _ => XS.sipush X_34.here hx rfl (hb hby at_175)) ?_
        show own_Go p e below _ (T_31.setTop (mkF m 178 #[.val (.int p1), .val (.int p2), .val (.long q3), .second, .val (.int p4), .val (.int p5), .val (.int p6), .val (.int (p1 &&& (3 : Int32))), .val (.ref b_1), .val (.int (0 : Int32)), .unset, .unset, .unset, .unset, .unset, .unset] [(.int (255 : Int32)), (.int p5), (.int (0 : Int32)), (.ref b_1)]))
        refine own_via (fun _ => XS.iand X_34.here hx rfl (hb hby at_178) rfl) ?_
        show own_Go p e below _ (T_31.setTop (mkF m 179 #[.val (.int p1), .val (.int p2), .val (.long q3), .second, .val (.int p4), .val (.int p5), .val (.int p6), .val (.int (p1 &&& (3 : Int32))), .val (.ref b_1), .val (.int (0 : Int32)), .unset, .unset, .unset, .unset, .unset, .unset] [(.int (p5 &&& (255 : Int32))), (.int (0 : Int32)), (.ref b_1)]))
        refine own_via (fun _ => XS.i2c X_34.here hx rfl (hb hby at_179) rfl) ?_
        show own_Go p e below _ (T_31.setTop (mkF m 180 #[.val (.int p1), .val (.int p2), .val (.long q3), .second, .val (.int p4), .val (.int p5), .val (.int p6), .val (.int (p1 &&& (3 : Int32))), .val (.ref b_1), .val (.int (0 : Int32)), .unset, .unset, .unset, .unset, .unset, .unset] [(.int ((p5 &&& (255 : Int32)).toUInt32.toUInt16.toUInt32.toInt32)), (.int (0 : Int32)), (.ref b_1)]))
        obtain ⟨cl_441, Ar_441, q_441, S_441, M_441, H_441, G_441⟩ := (id VB)
        obtain ⟨T_441, h_441, X_441, e_441, W_441, st_441⟩ := stC X_34 hx hZ e_34 Ar_441 (j := (0 : Int32)) (inb_of S_441 ⟨by decide, by decide⟩) (g := (mkF m 180 #[.val (.int p1), .val (.int p2), .val (.long q3), .second, .val (.int p4), .val (.int p5), .val (.int p6), .val (.int (p1 &&& (3 : Int32))), .val (.ref b_1), .val (.int (0 : Int32)), .unset, .unset, .unset, .unset, .unset, .unset] [(.int ((p5 &&& (255 : Int32)).toUInt32.toUInt16.toUInt32.toInt32)), (.int (0 : Int32)), (.ref b_1)])) rfl rfl (hb hby at_180)
        have V_441 : Arv Z h_441 b_1 k_1 .char (7 : Int32) [(.int (nar .char ((p5 &&& (255 : Int32)).toUInt32.toUInt16.toUInt32.toInt32))), (.int b1), (.int b2), (.int b3), (.int b4), (.int b5), (.int b6)] (.int (0 : Int32)) := Arv.set Ar_441 q_441 S_441 M_441 H_441 G_441 (fits_nar_char _) W_441 0 rfl (Nat.le_of_ble_eq_true rfl)
        have N_441 := Fr.snoc X_441 N_34 (Nat.le_trans Z0 (Nat.le_of_eq g_1.symm))
        refine own_via st_441 ?_
        show own_Go p e below _ (T_441.setTop (mkF m 181 #[.val (.int p1), .val (.int p2), .val (.long q3), .second, .val (.int p4), .val (.int p5), .val (.int p6), .val (.int (p1 &&& (3 : Int32))), .val (.ref b_1), .val (.int (0 : Int32)), .unset, .unset, .unset, .unset, .unset, .unset] []))
        have K_442 : Keep h_33 h_441 [b_1] := Keep.wr (ws := [b_1]) (own_keep_mono (Keep.refl h_33 []) (by simp)) W_441 (Or.inl (List.mem_of_getElem? (i := 0) rfl))
        exact kj_35 _ _ (nar .char ((p5 &&& (255 : Int32)).toUInt32.toUInt16.toUInt32.toInt32)) (own_chars p5) b1 hb1 b2 hb2 b3 hb3 b4 hb4 b5 hb5 b6 hb6 (.val (.int (0 : Int32))) (One.val rfl) X_441 _ e_441 K_442 V_441 N_441
      · rw [hp7]
        show own_Go p e below _ (T_31.setTop (mkF m 167 #[.val (.int p1), .val (.int p2), .val (.long q3), .second, .val (.int p4), .val (.int p5), .val (.int p6), .val (.int (p1 &&& (3 : Int32))), .val (.ref b_1), .unset, .unset, .unset, .unset, .unset, .unset, .unset] [(.int (1 : Int32))]))
        refine own_via (fun _ => XS.istore X_34.here hx rfl (hb hby at_167) rfl (l' := #[.val (.int p1), .val (.int p2), .val (.long q3), .second, .val (.int p4), .val (.int p5), .val (.int p6), .val (.int (p1 &&& (3 : Int32))), .val (.ref b_1), .val (.int (1 : Int32)), .unset, .unset, .unset, .unset, .unset, .unset]) rfl) ?_
        show own_Go p e below _ (T_31.setTop (mkF m 169 #[.val (.int p1), .val (.int p2), .val (.long q3), .second, .val (.int p4), .val (.int p5), .val (.int p6), .val (.int (p1 &&& (3 : Int32))), .val (.ref b_1), .val (.int (1 : Int32)), .unset, .unset, .unset, .unset, .unset, .unset] []))
        refine own_via (fun _ => XS.aload X_34.here hx rfl (hb hby at_169) rfl rfl) ?_
        show own_Go p e below _ (T_31.setTop (mkF m 171 #[.val (.int p1), .val (.int p2), .val (.long q3), .second, .val (.int p4), .val (.int p5), .val (.int p6), .val (.int (p1 &&& (3 : Int32))), .val (.ref b_1), .val (.int (1 : Int32)), .unset, .unset, .unset, .unset, .unset, .unset] [(.ref b_1)]))
        refine own_via (fun _ => XS.iload X_34.here hx rfl (hb hby at_171) rfl) ?_
        show own_Go p e below _ (T_31.setTop (mkF m 173 #[.val (.int p1), .val (.int p2), .val (.long q3), .second, .val (.int p4), .val (.int p5), .val (.int p6), .val (.int (p1 &&& (3 : Int32))), .val (.ref b_1), .val (.int (1 : Int32)), .unset, .unset, .unset, .unset, .unset, .unset] [(.int (1 : Int32)), (.ref b_1)]))
        refine own_via (fun _ => XS.iload X_34.here hx rfl (hb hby at_173) rfl) ?_
        show own_Go p e below _ (T_31.setTop (mkF m 175 #[.val (.int p1), .val (.int p2), .val (.long q3), .second, .val (.int p4), .val (.int p5), .val (.int p6), .val (.int (p1 &&& (3 : Int32))), .val (.ref b_1), .val (.int (1 : Int32)), .unset, .unset, .unset, .unset, .unset, .unset] [(.int p5), (.int (1 : Int32)), (.ref b_1)]))
        refine own_via (fun _ => XS.sipush X_34.here hx rfl (hb hby at_175)) ?_
        show own_Go p e below _ (T_31.setTop (mkF m 178 #[.val (.int p1), .val (.int p2), .val (.long q3), .second, .val (.int p4), .val (.int p5), .val (.int p6), .val (.int (p1 &&& (3 : Int32))), .val (.ref b_1), .val (.int (1 : Int32)), .unset, .unset, .unset, .unset, .unset, .unset] [(.int (255 : Int32)), (.int p5), (.int (1 : Int32)), (.ref b_1)]))
        refine own_via (fun _ => XS.iand X_34.here hx rfl (hb hby at_178) rfl) ?_
        show own_Go p e below _ (T_31.setTop (mkF m 179 #[.val (.int p1), .val (.int p2), .val (.long q3), .second, .val (.int p4), .val (.int p5), .val (.int p6), .val (.int (p1 &&& (3 : Int32))), .val (.ref b_1), .val (.int (1 : Int32)), .unset, .unset, .unset, .unset, .unset, .unset] [(.int (p5 &&& (255 : Int32))), (.int (1 : Int32)), (.ref b_1)]))
        refine own_via (fun _ => XS.i2c X_34.here hx rfl (hb hby at_179) rfl) ?_
        show own_Go p e below _ (T_31.setTop (mkF m 180 #[.val (.int p1), .val (.int p2), .val (.long q3), .second, .val (.int p4), .val (.int p5), .val (.int p6), .val (.int (p1 &&& (3 : Int32))), .val (.ref b_1), .val (.int (1 : Int32)), .unset, .unset, .unset, .unset, .unset, .unset] [(.int ((p5 &&& (255 : Int32)).toUInt32.toUInt16.toUInt32.toInt32)), (.int (1 : Int32)), (.ref b_1)]))
        obtain ⟨cl_443, Ar_443, q_443, S_443, M_443, H_443, G_443⟩ := (id VB)
        obtain ⟨T_443, h_443, X_443, e_443, W_443, st_443⟩ := stC X_34 hx hZ e_34 Ar_443 (j := (1 : Int32)) (inb_of S_443 ⟨by decide, by decide⟩) (g := (mkF m 180 #[.val (.int p1), .val (.int p2), .val (.long q3), .second, .val (.int p4), .val (.int p5), .val (.int p6), .val (.int (p1 &&& (3 : Int32))), .val (.ref b_1), .val (.int (1 : Int32)), .unset, .unset, .unset, .unset, .unset, .unset] [(.int ((p5 &&& (255 : Int32)).toUInt32.toUInt16.toUInt32.toInt32)), (.int (1 : Int32)), (.ref b_1)])) rfl rfl (hb hby at_180)
        have V_443 : Arv Z h_443 b_1 k_1 .char (7 : Int32) [(.int b0), (.int (nar .char ((p5 &&& (255 : Int32)).toUInt32.toUInt16.toUInt32.toInt32))), (.int b2), (.int b3), (.int b4), (.int b5), (.int b6)] (.int (0 : Int32)) := Arv.set Ar_443 q_443 S_443 M_443 H_443 G_443 (fits_nar_char _) W_443 1 rfl (Nat.le_of_ble_eq_true rfl)
        have N_443 := Fr.snoc X_443 N_34 (Nat.le_trans Z0 (Nat.le_of_eq g_1.symm))
        refine own_via st_443 ?_
        show own_Go p e below _ (T_443.setTop (mkF m 181 #[.val (.int p1), .val (.int p2), .val (.long q3), .second, .val (.int p4), .val (.int p5), .val (.int p6), .val (.int (p1 &&& (3 : Int32))), .val (.ref b_1), .val (.int (1 : Int32)), .unset, .unset, .unset, .unset, .unset, .unset] []))
        have K_444 : Keep h_33 h_443 [b_1] := Keep.wr (ws := [b_1]) (own_keep_mono (Keep.refl h_33 []) (by simp)) W_443 (Or.inl (List.mem_of_getElem? (i := 0) rfl))
        exact kj_35 _ _ b0 hb0 (nar .char ((p5 &&& (255 : Int32)).toUInt32.toUInt16.toUInt32.toInt32)) (own_chars p5) b2 hb2 b3 hb3 b4 hb4 b5 hb5 b6 hb6 (.val (.int (1 : Int32))) (One.val rfl) X_443 _ e_443 K_444 V_443 N_443
      · rw [hp7]
        show own_Go p e below _ (T_31.setTop (mkF m 167 #[.val (.int p1), .val (.int p2), .val (.long q3), .second, .val (.int p4), .val (.int p5), .val (.int p6), .val (.int (p1 &&& (3 : Int32))), .val (.ref b_1), .unset, .unset, .unset, .unset, .unset, .unset, .unset] [(.int (2 : Int32))]))
        refine own_via (fun _ => XS.istore X_34.here hx rfl (hb hby at_167) rfl (l' := #[.val (.int p1), .val (.int p2), .val (.long q3), .second, .val (.int p4), .val (.int p5), .val (.int p6), .val (.int (p1 &&& (3 : Int32))), .val (.ref b_1), .val (.int (2 : Int32)), .unset, .unset, .unset, .unset, .unset, .unset]) rfl) ?_
        show own_Go p e below _ (T_31.setTop (mkF m 169 #[.val (.int p1), .val (.int p2), .val (.long q3), .second, .val (.int p4), .val (.int p5), .val (.int p6), .val (.int (p1 &&& (3 : Int32))), .val (.ref b_1), .val (.int (2 : Int32)), .unset, .unset, .unset, .unset, .unset, .unset] []))
        refine own_via (fun _ => XS.aload X_34.here hx rfl (hb hby at_169) rfl rfl) ?_
        show own_Go p e below _ (T_31.setTop (mkF m 171 #[.val (.int p1), .val (.int p2), .val (.long q3), .second, .val (.int p4), .val (.int p5), .val (.int p6), .val (.int (p1 &&& (3 : Int32))), .val (.ref b_1), .val (.int (2 : Int32)), .unset, .unset, .unset, .unset, .unset, .unset] [(.ref b_1)]))
        refine own_via (fun _ => XS.iload X_34.here hx rfl (hb hby at_171) rfl) ?_
        show own_Go p e below _ (T_31.setTop (mkF m 173 #[.val (.int p1), .val (.int p2), .val (.long q3), .second, .val (.int p4), .val (.int p5), .val (.int p6), .val (.int (p1 &&& (3 : Int32))), .val (.ref b_1), .val (.int (2 : Int32)), .unset, .unset, .unset, .unset, .unset, .unset] [(.int (2 : Int32)), (.ref b_1)]))
        refine own_via (fun _ => XS.iload X_34.here hx rfl (hb hby at_173) rfl) ?_
        show own_Go p e below _ (T_31.setTop (mkF m 175 #[.val (.int p1), .val (.int p2), .val (.long q3), .second, .val (.int p4), .val (.int p5), .val (.int p6), .val (.int (p1 &&& (3 : Int32))), .val (.ref b_1), .val (.int (2 : Int32)), .unset, .unset, .unset, .unset, .unset, .unset] [(.int p5), (.int (2 : Int32)), (.ref b_1)]))
        refine own_via (fun _ => XS.sipush X_34.here hx rfl (hb hby at_175)) ?_
        show own_Go p e below _ (T_31.setTop (mkF m 178 #[.val (.int p1), .val (.int p2), .val (.long q3), .second, .val (.int p4), .val (.int p5), .val (.int p6), .val (.int (p1 &&& (3 : Int32))), .val (.ref b_1), .val (.int (2 : Int32)), .unset, .unset, .unset, .unset, .unset, .unset] [(.int (255 : Int32)), (.int p5), (.int (2 : Int32)), (.ref b_1)]))
        refine own_via (fun _ => XS.iand X_34.here hx rfl (hb hby at_178) rfl) ?_
        show own_Go p e below _ (T_31.setTop (mkF m 179 #[.val (.int p1), .val (.int p2), .val (.long q3), .second, .val (.int p4), .val (.int p5), .val (.int p6), .val (.int (p1 &&& (3 : Int32))), .val (.ref b_1), .val (.int (2 : Int32)), .unset, .unset, .unset, .unset, .unset, .unset] [(.int (p5 &&& (255 : Int32))), (.int (2 : Int32)), (.ref b_1)]))
        refine own_via (fun _ => XS.i2c X_34.here hx rfl (hb hby at_179) rfl) ?_
        show own_Go p e below _ (T_31.setTop (mkF m 180 #[.val (.int p1), .val (.int p2), .val (.long q3), .second, .val (.int p4), .val (.int p5), .val (.int p6), .val (.int (p1 &&& (3 : Int32))), .val (.ref b_1), .val (.int (2 : Int32)), .unset, .unset, .unset, .unset, .unset, .unset] [(.int ((p5 &&& (255 : Int32)).toUInt32.toUInt16.toUInt32.toInt32)), (.int (2 : Int32)), (.ref b_1)]))
        obtain ⟨cl_445, Ar_445, q_445, S_445, M_445, H_445, G_445⟩ := (id VB)
        obtain ⟨T_445, h_445, X_445, e_445, W_445, st_445⟩ := stC X_34 hx hZ e_34 Ar_445 (j := (2 : Int32)) (inb_of S_445 ⟨by decide, by decide⟩) (g := (mkF m 180 #[.val (.int p1), .val (.int p2), .val (.long q3), .second, .val (.int p4), .val (.int p5), .val (.int p6), .val (.int (p1 &&& (3 : Int32))), .val (.ref b_1), .val (.int (2 : Int32)), .unset, .unset, .unset, .unset, .unset, .unset] [(.int ((p5 &&& (255 : Int32)).toUInt32.toUInt16.toUInt32.toInt32)), (.int (2 : Int32)), (.ref b_1)])) rfl rfl (hb hby at_180)
        have V_445 : Arv Z h_445 b_1 k_1 .char (7 : Int32) [(.int b0), (.int b1), (.int (nar .char ((p5 &&& (255 : Int32)).toUInt32.toUInt16.toUInt32.toInt32))), (.int b3), (.int b4), (.int b5), (.int b6)] (.int (0 : Int32)) := Arv.set Ar_445 q_445 S_445 M_445 H_445 G_445 (fits_nar_char _) W_445 2 rfl (Nat.le_of_ble_eq_true rfl)
        have N_445 := Fr.snoc X_445 N_34 (Nat.le_trans Z0 (Nat.le_of_eq g_1.symm))
        refine own_via st_445 ?_
        show own_Go p e below _ (T_445.setTop (mkF m 181 #[.val (.int p1), .val (.int p2), .val (.long q3), .second, .val (.int p4), .val (.int p5), .val (.int p6), .val (.int (p1 &&& (3 : Int32))), .val (.ref b_1), .val (.int (2 : Int32)), .unset, .unset, .unset, .unset, .unset, .unset] []))
        have K_446 : Keep h_33 h_445 [b_1] := Keep.wr (ws := [b_1]) (own_keep_mono (Keep.refl h_33 []) (by simp)) W_445 (Or.inl (List.mem_of_getElem? (i := 0) rfl))
        exact kj_35 _ _ b0 hb0 b1 hb1 (nar .char ((p5 &&& (255 : Int32)).toUInt32.toUInt16.toUInt32.toInt32)) (own_chars p5) b3 hb3 b4 hb4 b5 hb5 b6 hb6 (.val (.int (2 : Int32))) (One.val rfl) X_445 _ e_445 K_446 V_445 N_445
      · rw [hp7]
        show own_Go p e below _ (T_31.setTop (mkF m 167 #[.val (.int p1), .val (.int p2), .val (.long q3), .second, .val (.int p4), .val (.int p5), .val (.int p6), .val (.int (p1 &&& (3 : Int32))), .val (.ref b_1), .unset, .unset, .unset, .unset, .unset, .unset, .unset] [(.int (3 : Int32))]))
        refine own_via (fun _ => XS.istore X_34.here hx rfl (hb hby at_167) rfl (l' := #[.val (.int p1), .val (.int p2), .val (.long q3), .second, .val (.int p4), .val (.int p5), .val (.int p6), .val (.int (p1 &&& (3 : Int32))), .val (.ref b_1), .val (.int (3 : Int32)), .unset, .unset, .unset, .unset, .unset, .unset]) rfl) ?_
        show own_Go p e below _ (T_31.setTop (mkF m 169 #[.val (.int p1), .val (.int p2), .val (.long q3), .second, .val (.int p4), .val (.int p5), .val (.int p6), .val (.int (p1 &&& (3 : Int32))), .val (.ref b_1), .val (.int (3 : Int32)), .unset, .unset, .unset, .unset, .unset, .unset] []))
        refine own_via (fun _ => XS.aload X_34.here hx rfl (hb hby at_169) rfl rfl) ?_
        show own_Go p e below _ (T_31.setTop (mkF m 171 #[.val (.int p1), .val (.int p2), .val (.long q3), .second, .val (.int p4), .val (.int p5), .val (.int p6), .val (.int (p1 &&& (3 : Int32))), .val (.ref b_1), .val (.int (3 : Int32)), .unset, .unset, .unset, .unset, .unset, .unset] [(.ref b_1)]))
        refine own_via (fun _ => XS.iload X_34.here hx rfl (hb hby at_171) rfl) ?_
        show own_Go p e below _ (T_31.setTop (mkF m 173 #[.val (.int p1), .val (.int p2), .val (.long q3), .second, .val (.int p4), .val (.int p5), .val (.int p6), .val (.int (p1 &&& (3 : Int32))), .val (.ref b_1), .val (.int (3 : Int32)), .unset, .unset, .unset, .unset, .unset, .unset] [(.int (3 : Int32)), (.ref b_1)]))
        refine own_via (fun _ => XS.iload X_34.here hx rfl (hb hby at_173) rfl) ?_
        show own_Go p e below _ (T_31.setTop (mkF m 175 #[.val (.int p1), .val (.int p2), .val (.long q3), .second, .val (.int p4), .val (.int p5), .val (.int p6), .val (.int (p1 &&& (3 : Int32))), .val (.ref b_1), .val (.int (3 : Int32)), .unset, .unset, .unset, .unset, .unset, .unset] [(.int p5), (.int (3 : Int32)), (.ref b_1)]))
        refine own_via (fun _ => XS.sipush X_34.here hx rfl (hb hby at_175)) ?_
        show own_Go p e below _ (T_31.setTop (mkF m 178 #[.val (.int p1), .val (.int p2), .val (.long q3), .second, .val (.int p4), .val (.int p5), .val (.int p6), .val (.int (p1 &&& (3 : Int32))), .val (.ref b_1), .val (.int (3 : Int32)), .unset, .unset, .unset, .unset, .unset, .unset] [(.int (255 : Int32)), (.int p5), (.int (3 : Int32)), (.ref b_1)]))
        refine own_via (fun _ => XS.iand X_34.here hx rfl (hb hby at_178) rfl) ?_
        show own_Go p e below _ (T_31.setTop (mkF m 179 #[.val (.int p1), .val (.int p2), .val (.long q3), .second, .val (.int p4), .val (.int p5), .val (.int p6), .val (.int (p1 &&& (3 : Int32))), .val (.ref b_1), .val (.int (3 : Int32)), .unset, .unset, .unset, .unset, .unset, .unset] [(.int (p5 &&& (255 : Int32))), (.int (3 : Int32)), (.ref b_1)]))
        refine own_via (fun _ => XS.i2c X_34.here hx rfl (hb hby at_179) rfl) ?_
        show own_Go p e below _ (T_31.setTop (mkF m 180 #[.val (.int p1), .val (.int p2), .val (.long q3), .second, .val (.int p4), .val (.int p5), .val (.int p6), .val (.int (p1 &&& (3 : Int32))), .val (.ref b_1), .val (.int (3 : Int32)), .unset, .unset, .unset, .unset, .unset, .unset] [(.int ((p5 &&& (255 : Int32)).toUInt32.toUInt16.toUInt32.toInt32)), (.int (3 : Int32)), (.ref b_1)]))
        obtain ⟨cl_447, Ar_447, q_447, S_447, M_447, H_447, G_447⟩ := (id VB)
        obtain ⟨T_447, h_447, X_447, e_447, W_447, st_447⟩ := stC X_34 hx hZ e_34 Ar_447 (j := (3 : Int32)) (inb_of S_447 ⟨by decide, by decide⟩) (g := (mkF m 180 #[.val (.int p1), .val (.int p2), .val (.long q3), .second, .val (.int p4), .val (.int p5), .val (.int p6), .val (.int (p1 &&& (3 : Int32))), .val (.ref b_1), .val (.int (3 : Int32)), .unset, .unset, .unset, .unset, .unset, .unset] [(.int ((p5 &&& (255 : Int32)).toUInt32.toUInt16.toUInt32.toInt32)), (.int (3 : Int32)), (.ref b_1)])) rfl rfl (hb hby at_180)
        have V_447 : Arv Z h_447 b_1 k_1 .char (7 : Int32) [(.int b0), (.int b1), (.int b2), (.int (nar .char ((p5 &&& (255 : Int32)).toUInt32.toUInt16.toUInt32.toInt32))), (.int b4), (.int b5), (.int b6)] (.int (0 : Int32)) := Arv.set Ar_447 q_447 S_447 M_447 H_447 G_447 (fits_nar_char _) W_447 3 rfl (Nat.le_of_ble_eq_true rfl)
        have N_447 := Fr.snoc X_447 N_34 (Nat.le_trans Z0 (Nat.le_of_eq g_1.symm))
        refine own_via st_447 ?_
        show own_Go p e below _ (T_447.setTop (mkF m 181 #[.val (.int p1), .val (.int p2), .val (.long q3), .second, .val (.int p4), .val (.int p5), .val (.int p6), .val (.int (p1 &&& (3 : Int32))), .val (.ref b_1), .val (.int (3 : Int32)), .unset, .unset, .unset, .unset, .unset, .unset] []))
        have K_448 : Keep h_33 h_447 [b_1] := Keep.wr (ws := [b_1]) (own_keep_mono (Keep.refl h_33 []) (by simp)) W_447 (Or.inl (List.mem_of_getElem? (i := 0) rfl))
        exact kj_35 _ _ b0 hb0 b1 hb1 b2 hb2 (nar .char ((p5 &&& (255 : Int32)).toUInt32.toUInt16.toUInt32.toInt32)) (own_chars p5) b4 hb4 b5 hb5 b6 hb6 (.val (.int (3 : Int32))) (One.val rfl) X_447 _ e_447 K_448 V_447 N_447
      · rw [hp7]
        show own_Go p e below _ (T_31.setTop (mkF m 167 #[.val (.int p1), .val (.int p2), .val (.long q3), .second, .val (.int p4), .val (.int p5), .val (.int p6), .val (.int (p1 &&& (3 : Int32))), .val (.ref b_1), .unset, .unset, .unset, .unset, .unset, .unset, .unset] [(.int (4 : Int32))]))
        refine own_via (fun _ => XS.istore X_34.here hx rfl (hb hby at_167) rfl (l' := #[.val (.int p1), .val (.int p2), .val (.long q3), .second, .val (.int p4), .val (.int p5), .val (.int p6), .val (.int (p1 &&& (3 : Int32))), .val (.ref b_1), .val (.int (4 : Int32)), .unset, .unset, .unset, .unset, .unset, .unset]) rfl) ?_
        show own_Go p e below _ (T_31.setTop (mkF m 169 #[.val (.int p1), .val (.int p2), .val (.long q3), .second, .val (.int p4), .val (.int p5), .val (.int p6), .val (.int (p1 &&& (3 : Int32))), .val (.ref b_1), .val (.int (4 : Int32)), .unset, .unset, .unset, .unset, .unset, .unset] []))
        refine own_via (fun _ => XS.aload X_34.here hx rfl (hb hby at_169) rfl rfl) ?_
        show own_Go p e below _ (T_31.setTop (mkF m 171 #[.val (.int p1), .val (.int p2), .val (.long q3), .second, .val (.int p4), .val (.int p5), .val (.int p6), .val (.int (p1 &&& (3 : Int32))), .val (.ref b_1), .val (.int (4 : Int32)), .unset, .unset, .unset, .unset, .unset, .unset] [(.ref b_1)]))
        refine own_via (fun _ => XS.iload X_34.here hx rfl (hb hby at_171) rfl) ?_
        show own_Go p e below _ (T_31.setTop (mkF m 173 #[.val (.int p1), .val (.int p2), .val (.long q3), .second, .val (.int p4), .val (.int p5), .val (.int p6), .val (.int (p1 &&& (3 : Int32))), .val (.ref b_1), .val (.int (4 : Int32)), .unset, .unset, .unset, .unset, .unset, .unset] [(.int (4 : Int32)), (.ref b_1)]))
        refine own_via (fun _ => XS.iload X_34.here hx rfl (hb hby at_173) rfl) ?_
        show own_Go p e below _ (T_31.setTop (mkF m 175 #[.val (.int p1), .val (.int p2), .val (.long q3), .second, .val (.int p4), .val (.int p5), .val (.int p6), .val (.int (p1 &&& (3 : Int32))), .val (.ref b_1), .val (.int (4 : Int32)), .unset, .unset, .unset, .unset, .unset, .unset] [(.int p5), (.int (4 : Int32)), (.ref b_1)]))
        refine own_via (fun _ => XS.sipush X_34.here hx rfl (hb hby at_175)) ?_
        show own_Go p e below _ (T_31.setTop (mkF m 178 #[.val (.int p1), .val (.int p2), .val (.long q3), .second, .val (.int p4), .val (.int p5), .val (.int p6), .val (.int (p1 &&& (3 : Int32))), .val (.ref b_1), .val (.int (4 : Int32)), .unset, .unset, .unset, .unset, .unset, .unset] [(.int (255 : Int32)), (.int p5), (.int (4 : Int32)), (.ref b_1)]))
        refine own_via (fun _ => XS.iand X_34.here hx rfl (hb hby at_178) rfl) ?_
        show own_Go p e below _ (T_31.setTop (mkF m 179 #[.val (.int p1), .val (.int p2), .val (.long q3), .second, .val (.int p4), .val (.int p5), .val (.int p6), .val (.int (p1 &&& (3 : Int32))), .val (.ref b_1), .val (.int (4 : Int32)), .unset, .unset, .unset, .unset, .unset, .unset] [(.int (p5 &&& (255 : Int32))), (.int (4 : Int32)), (.ref b_1)]))
        refine own_via (fun _ => XS.i2c X_34.here hx rfl (hb hby at_179) rfl) ?_
        show own_Go p e below _ (T_31.setTop (mkF m 180 #[.val (.int p1), .val (.int p2), .val (.long q3), .second, .val (.int p4), .val (.int p5), .val (.int p6), .val (.int (p1 &&& (3 : Int32))), .val (.ref b_1), .val (.int (4 : Int32)), .unset, .unset, .unset, .unset, .unset, .unset] [(.int ((p5 &&& (255 : Int32)).toUInt32.toUInt16.toUInt32.toInt32)), (.int (4 : Int32)), (.ref b_1)]))
        obtain ⟨cl_449, Ar_449, q_449, S_449, M_449, H_449, G_449⟩ := (id VB)
        obtain ⟨T_449, h_449, X_449, e_449, W_449, st_449⟩ := stC X_34 hx hZ e_34 Ar_449 (j := (4 : Int32)) (inb_of S_449 ⟨by decide, by decide⟩) (g := (mkF m 180 #[.val (.int p1), .val (.int p2), .val (.long q3), .second, .val (.int p4), .val (.int p5), .val (.int p6), .val (.int (p1 &&& (3 : Int32))), .val (.ref b_1), .val (.int (4 : Int32)), .unset, .unset, .unset, .unset, .unset, .unset] [(.int ((p5 &&& (255 : Int32)).toUInt32.toUInt16.toUInt32.toInt32)), (.int (4 : Int32)), (.ref b_1)])) rfl rfl (hb hby at_180)
        have V_449 : Arv Z h_449 b_1 k_1 .char (7 : Int32) [(.int b0), (.int b1), (.int b2), (.int b3), (.int (nar .char ((p5 &&& (255 : Int32)).toUInt32.toUInt16.toUInt32.toInt32))), (.int b5), (.int b6)] (.int (0 : Int32)) := Arv.set Ar_449 q_449 S_449 M_449 H_449 G_449 (fits_nar_char _) W_449 4 rfl (Nat.le_of_ble_eq_true rfl)
        have N_449 := Fr.snoc X_449 N_34 (Nat.le_trans Z0 (Nat.le_of_eq g_1.symm))
        refine own_via st_449 ?_
        show own_Go p e below _ (T_449.setTop (mkF m 181 #[.val (.int p1), .val (.int p2), .val (.long q3), .second, .val (.int p4), .val (.int p5), .val (.int p6), .val (.int (p1 &&& (3 : Int32))), .val (.ref b_1), .val (.int (4 : Int32)), .unset, .unset, .unset, .unset, .unset, .unset] []))
        have K_450 : Keep h_33 h_449 [b_1] := Keep.wr (ws := [b_1]) (own_keep_mono (Keep.refl h_33 []) (by simp)) W_449 (Or.inl (List.mem_of_getElem? (i := 0) rfl))
        exact kj_35 _ _ b0 hb0 b1 hb1 b2 hb2 b3 hb3 (nar .char ((p5 &&& (255 : Int32)).toUInt32.toUInt16.toUInt32.toInt32)) (own_chars p5) b5 hb5 b6 hb6 (.val (.int (4 : Int32))) (One.val rfl) X_449 _ e_449 K_450 V_449 N_449
      · rw [hp7]
        show own_Go p e below _ (T_31.setTop (mkF m 167 #[.val (.int p1), .val (.int p2), .val (.long q3), .second, .val (.int p4), .val (.int p5), .val (.int p6), .val (.int (p1 &&& (3 : Int32))), .val (.ref b_1), .unset, .unset, .unset, .unset, .unset, .unset, .unset] [(.int (5 : Int32))]))
        refine own_via (fun _ => XS.istore X_34.here hx rfl (hb hby at_167) rfl (l' := #[.val (.int p1), .val (.int p2), .val (.long q3), .second, .val (.int p4), .val (.int p5), .val (.int p6), .val (.int (p1 &&& (3 : Int32))), .val (.ref b_1), .val (.int (5 : Int32)), .unset, .unset, .unset, .unset, .unset, .unset]) rfl) ?_
        show own_Go p e below _ (T_31.setTop (mkF m 169 #[.val (.int p1), .val (.int p2), .val (.long q3), .second, .val (.int p4), .val (.int p5), .val (.int p6), .val (.int (p1 &&& (3 : Int32))), .val (.ref b_1), .val (.int (5 : Int32)), .unset, .unset, .unset, .unset, .unset, .unset] []))
        refine own_via (fun _ => XS.aload X_34.here hx rfl (hb hby at_169) rfl rfl) ?_
        show own_Go p e below _ (T_31.setTop (mkF m 171 #[.val (.int p1), .val (.int p2), .val (.long q3), .second, .val (.int p4), .val (.int p5), .val (.int p6), .val (.int (p1 &&& (3 : Int32))), .val (.ref b_1), .val (.int (5 : Int32)), .unset, .unset, .unset, .unset, .unset, .unset] [(.ref b_1)]))
        refine own_via (fun _ => XS.iload X_34.here hx rfl (hb hby at_171) rfl) ?_
        show own_Go p e below _ (T_31.setTop (mkF m 173 #[.val (.int p1), .val (.int p2), .val (.long q3), .second, .val (.int p4), .val (.int p5), .val (.int p6), .val (.int (p1 &&& (3 : Int32))), .val (.ref b_1), .val (.int (5 : Int32)), .unset, .unset, .unset, .unset, .unset, .unset] [(.int (5 : Int32)), (.ref b_1)]))
        refine own_via (fun _ => XS.iload X_34.here hx rfl (hb hby at_173) rfl) ?_
        show own_Go p e below _ (T_31.setTop (mkF m 175 #[.val (.int p1), .val (.int p2), .val (.long q3), .second, .val (.int p4), .val (.int p5), .val (.int p6), .val (.int (p1 &&& (3 : Int32))), .val (.ref b_1), .val (.int (5 : Int32)), .unset, .unset, .unset, .unset, .unset, .unset] [(.int p5), (.int (5 : Int32)), (.ref b_1)]))
        refine own_via (fun _ => XS.sipush X_34.here hx rfl (hb hby at_175)) ?_
        show own_Go p e below _ (T_31.setTop (mkF m 178 #[.val (.int p1), .val (.int p2), .val (.long q3), .second, .val (.int p4), .val (.int p5), .val (.int p6), .val (.int (p1 &&& (3 : Int32))), .val (.ref b_1), .val (.int (5 : Int32)), .unset, .unset, .unset, .unset, .unset, .unset] [(.int (255 : Int32)), (.int p5), (.int (5 : Int32)), (.ref b_1)]))
        refine own_via (fun _ => XS.iand X_34.here hx rfl (hb hby at_178) rfl) ?_
        show own_Go p e below _ (T_31.setTop (mkF m 179 #[.val (.int p1), .val (.int p2), .val (.long q3), .second, .val (.int p4), .val (.int p5), .val (.int p6), .val (.int (p1 &&& (3 : Int32))), .val (.ref b_1), .val (.int (5 : Int32)), .unset, .unset, .unset, .unset, .unset, .unset] [(.int (p5 &&& (255 : Int32))), (.int (5 : Int32)), (.ref b_1)]))
        refine own_via (fun _ => XS.i2c X_34.here hx rfl (hb hby at_179) rfl) ?_
        show own_Go p e below _ (T_31.setTop (mkF m 180 #[.val (.int p1), .val (.int p2), .val (.long q3), .second, .val (.int p4), .val (.int p5), .val (.int p6), .val (.int (p1 &&& (3 : Int32))), .val (.ref b_1), .val (.int (5 : Int32)), .unset, .unset, .unset, .unset, .unset, .unset] [(.int ((p5 &&& (255 : Int32)).toUInt32.toUInt16.toUInt32.toInt32)), (.int (5 : Int32)), (.ref b_1)]))
        obtain ⟨cl_451, Ar_451, q_451, S_451, M_451, H_451, G_451⟩ := (id VB)
        obtain ⟨T_451, h_451, X_451, e_451, W_451, st_451⟩ := stC X_34 hx hZ e_34 Ar_451 (j := (5 : Int32)) (inb_of S_451 ⟨by decide, by decide⟩) (g := (mkF m 180 #[.val (.int p1), .val (.int p2), .val (.long q3), .second, .val (.int p4), .val (.int p5), .val (.int p6), .val (.int (p1 &&& (3 : Int32))), .val (.ref b_1), .val (.int (5 : Int32)), .unset, .unset, .unset, .unset, .unset, .unset] [(.int ((p5 &&& (255 : Int32)).toUInt32.toUInt16.toUInt32.toInt32)), (.int (5 : Int32)), (.ref b_1)])) rfl rfl (hb hby at_180)
        have V_451 : Arv Z h_451 b_1 k_1 .char (7 : Int32) [(.int b0), (.int b1), (.int b2), (.int b3), (.int b4), (.int (nar .char ((p5 &&& (255 : Int32)).toUInt32.toUInt16.toUInt32.toInt32))), (.int b6)] (.int (0 : Int32)) := Arv.set Ar_451 q_451 S_451 M_451 H_451 G_451 (fits_nar_char _) W_451 5 rfl (Nat.le_of_ble_eq_true rfl)
        have N_451 := Fr.snoc X_451 N_34 (Nat.le_trans Z0 (Nat.le_of_eq g_1.symm))
        refine own_via st_451 ?_
        show own_Go p e below _ (T_451.setTop (mkF m 181 #[.val (.int p1), .val (.int p2), .val (.long q3), .second, .val (.int p4), .val (.int p5), .val (.int p6), .val (.int (p1 &&& (3 : Int32))), .val (.ref b_1), .val (.int (5 : Int32)), .unset, .unset, .unset, .unset, .unset, .unset] []))
        have K_452 : Keep h_33 h_451 [b_1] := Keep.wr (ws := [b_1]) (own_keep_mono (Keep.refl h_33 []) (by simp)) W_451 (Or.inl (List.mem_of_getElem? (i := 0) rfl))
        exact kj_35 _ _ b0 hb0 b1 hb1 b2 hb2 b3 hb3 b4 hb4 (nar .char ((p5 &&& (255 : Int32)).toUInt32.toUInt16.toUInt32.toInt32)) (own_chars p5) b6 hb6 (.val (.int (5 : Int32))) (One.val rfl) X_451 _ e_451 K_452 V_451 N_451
      · rw [hp7]
        show own_Go p e below _ (T_31.setTop (mkF m 167 #[.val (.int p1), .val (.int p2), .val (.long q3), .second, .val (.int p4), .val (.int p5), .val (.int p6), .val (.int (p1 &&& (3 : Int32))), .val (.ref b_1), .unset, .unset, .unset, .unset, .unset, .unset, .unset] [(.int (6 : Int32))]))
        refine own_via (fun _ => XS.istore X_34.here hx rfl (hb hby at_167) rfl (l' := #[.val (.int p1), .val (.int p2), .val (.long q3), .second, .val (.int p4), .val (.int p5), .val (.int p6), .val (.int (p1 &&& (3 : Int32))), .val (.ref b_1), .val (.int (6 : Int32)), .unset, .unset, .unset, .unset, .unset, .unset]) rfl) ?_
        show own_Go p e below _ (T_31.setTop (mkF m 169 #[.val (.int p1), .val (.int p2), .val (.long q3), .second, .val (.int p4), .val (.int p5), .val (.int p6), .val (.int (p1 &&& (3 : Int32))), .val (.ref b_1), .val (.int (6 : Int32)), .unset, .unset, .unset, .unset, .unset, .unset] []))
        refine own_via (fun _ => XS.aload X_34.here hx rfl (hb hby at_169) rfl rfl) ?_
        show own_Go p e below _ (T_31.setTop (mkF m 171 #[.val (.int p1), .val (.int p2), .val (.long q3), .second, .val (.int p4), .val (.int p5), .val (.int p6), .val (.int (p1 &&& (3 : Int32))), .val (.ref b_1), .val (.int (6 : Int32)), .unset, .unset, .unset, .unset, .unset, .unset] [(.ref b_1)]))
        refine own_via (fun _ => XS.iload X_34.here hx rfl (hb hby at_171) rfl) ?_
        show own_Go p e below _ (T_31.setTop (mkF m 173 #[.val (.int p1), .val (.int p2), .val (.long q3), .second, .val (.int p4), .val (.int p5), .val (.int p6), .val (.int (p1 &&& (3 : Int32))), .val (.ref b_1), .val (.int (6 : Int32)), .unset, .unset, .unset, .unset, .unset, .unset] [(.int (6 : Int32)), (.ref b_1)]))
        refine own_via (fun _ => XS.iload X_34.here hx rfl (hb hby at_173) rfl) ?_
        show own_Go p e below _ (T_31.setTop (mkF m 175 #[.val (.int p1), .val (.int p2), .val (.long q3), .second, .val (.int p4), .val (.int p5), .val (.int p6), .val (.int (p1 &&& (3 : Int32))), .val (.ref b_1), .val (.int (6 : Int32)), .unset, .unset, .unset, .unset, .unset, .unset] [(.int p5), (.int (6 : Int32)), (.ref b_1)]))
        refine own_via (fun _ => XS.sipush X_34.here hx rfl (hb hby at_175)) ?_
        show own_Go p e below _ (T_31.setTop (mkF m 178 #[.val (.int p1), .val (.int p2), .val (.long q3), .second, .val (.int p4), .val (.int p5), .val (.int p6), .val (.int (p1 &&& (3 : Int32))), .val (.ref b_1), .val (.int (6 : Int32)), .unset, .unset, .unset, .unset, .unset, .unset] [(.int (255 : Int32)), (.int p5), (.int (6 : Int32)), (.ref b_1)]))
        refine own_via (fun _ => XS.iand X_34.here hx rfl (hb hby at_178) rfl) ?_
        show own_Go p e below _ (T_31.setTop (mkF m 179 #[.val (.int p1), .val (.int p2), .val (.long q3), .second, .val (.int p4), .val (.int p5), .val (.int p6), .val (.int (p1 &&& (3 : Int32))), .val (.ref b_1), .val (.int (6 : Int32)), .unset, .unset, .unset, .unset, .unset, .unset] [(.int (p5 &&& (255 : Int32))), (.int (6 : Int32)), (.ref b_1)]))
        refine own_via (fun _ => XS.i2c X_34.here hx rfl (hb hby at_179) rfl) ?_
        show own_Go p e below _ (T_31.setTop (mkF m 180 #[.val (.int p1), .val (.int p2), .val (.long q3), .second, .val (.int p4), .val (.int p5), .val (.int p6), .val (.int (p1 &&& (3 : Int32))), .val (.ref b_1), .val (.int (6 : Int32)), .unset, .unset, .unset, .unset, .unset, .unset] [(.int ((p5 &&& (255 : Int32)).toUInt32.toUInt16.toUInt32.toInt32)), (.int (6 : Int32)), (.ref b_1)]))
        obtain ⟨cl_453, Ar_453, q_453, S_453, M_453, H_453, G_453⟩ := (id VB)
        obtain ⟨T_453, h_453, X_453, e_453, W_453, st_453⟩ := stC X_34 hx hZ e_34 Ar_453 (j := (6 : Int32)) (inb_of S_453 ⟨by decide, by decide⟩) (g := (mkF m 180 #[.val (.int p1), .val (.int p2), .val (.long q3), .second, .val (.int p4), .val (.int p5), .val (.int p6), .val (.int (p1 &&& (3 : Int32))), .val (.ref b_1), .val (.int (6 : Int32)), .unset, .unset, .unset, .unset, .unset, .unset] [(.int ((p5 &&& (255 : Int32)).toUInt32.toUInt16.toUInt32.toInt32)), (.int (6 : Int32)), (.ref b_1)])) rfl rfl (hb hby at_180)
        have V_453 : Arv Z h_453 b_1 k_1 .char (7 : Int32) [(.int b0), (.int b1), (.int b2), (.int b3), (.int b4), (.int b5), (.int (nar .char ((p5 &&& (255 : Int32)).toUInt32.toUInt16.toUInt32.toInt32)))] (.int (0 : Int32)) := Arv.set Ar_453 q_453 S_453 M_453 H_453 G_453 (fits_nar_char _) W_453 6 rfl (Nat.le_of_ble_eq_true rfl)
        have N_453 := Fr.snoc X_453 N_34 (Nat.le_trans Z0 (Nat.le_of_eq g_1.symm))
        refine own_via st_453 ?_
        show own_Go p e below _ (T_453.setTop (mkF m 181 #[.val (.int p1), .val (.int p2), .val (.long q3), .second, .val (.int p4), .val (.int p5), .val (.int p6), .val (.int (p1 &&& (3 : Int32))), .val (.ref b_1), .val (.int (6 : Int32)), .unset, .unset, .unset, .unset, .unset, .unset] []))
        have K_454 : Keep h_33 h_453 [b_1] := Keep.wr (ws := [b_1]) (own_keep_mono (Keep.refl h_33 []) (by simp)) W_453 (Or.inl (List.mem_of_getElem? (i := 0) rfl))
        exact kj_35 _ _ b0 hb0 b1 hb1 b2 hb2 b3 hb3 b4 hb4 b5 hb5 (nar .char ((p5 &&& (255 : Int32)).toUInt32.toUInt16.toUInt32.toInt32)) (own_chars p5) (.val (.int (6 : Int32))) (One.val rfl) X_453 _ e_453 K_454 V_453 N_453
  by_cases hk0 : (p1 &&& (3 : Int32)) = (0 : Int32)
  · refine own_via (fun _ => XS.ifNo X_28.here hx rfl (hb hby at_78) rfl ((if0 _ _).trans (teq (hk0 : (p1 &&& (3 : Int32)) = (0 : Int32))).2)) ?_
    show own_Go p e below _ (T_28.setTop (mkF m 81 #[.val (.int p1), .val (.int p2), .val (.long q3), .second, .val (.int p4), .val (.int p5), .val (.int p6), .val (.int (p1 &&& (3 : Int32))), .val (.ref b_1), .unset, .unset, .unset, .unset, .unset, .unset, .unset] []))
    refine own_via (fun _ => XS.aload X_28.here hx rfl (hb hby at_81) rfl rfl) ?_
    show own_Go p e below _ (T_28.setTop (mkF m 83 #[.val (.int p1), .val (.int p2), .val (.long q3), .second, .val (.int p4), .val (.int p5), .val (.int p6), .val (.int (p1 &&& (3 : Int32))), .val (.ref b_1), .unset, .unset, .unset, .unset, .unset, .unset, .unset] [(.ref b_1)]))
    refine own_via (fun _ => XS.iconst X_28.here hx rfl (hb hby at_83)) ?_
    show own_Go p e below _ (T_28.setTop (mkF m 84 #[.val (.int p1), .val (.int p2), .val (.long q3), .second, .val (.int p4), .val (.int p5), .val (.int p6), .val (.int (p1 &&& (3 : Int32))), .val (.ref b_1), .unset, .unset, .unset, .unset, .unset, .unset, .unset] [(.int (0 : Int32)), (.ref b_1)]))
    refine own_via (fun _ => XS.bipush X_28.here hx rfl (hb hby at_84)) ?_
    show own_Go p e below _ (T_28.setTop (mkF m 86 #[.val (.int p1), .val (.int p2), .val (.long q3), .second, .val (.int p4), .val (.int p5), .val (.int p6), .val (.int (p1 &&& (3 : Int32))), .val (.ref b_1), .unset, .unset, .unset, .unset, .unset, .unset, .unset] [(.int (105 : Int32)), (.int (0 : Int32)), (.ref b_1)]))
    obtain ⟨cl_455, Ar_455, q_455, S_455, M_455, H_455, G_455⟩ := (id V_29)
    obtain ⟨T_455, h_455, X_455, e_455, W_455, st_455⟩ := stC X_28 hx hZ e_28 Ar_455 (j := (0 : Int32)) (inb_of S_455 ⟨by decide, by decide⟩) (g := (mkF m 86 #[.val (.int p1), .val (.int p2), .val (.long q3), .second, .val (.int p4), .val (.int p5), .val (.int p6), .val (.int (p1 &&& (3 : Int32))), .val (.ref b_1), .unset, .unset, .unset, .unset, .unset, .unset, .unset] [(.int (105 : Int32)), (.int (0 : Int32)), (.ref b_1)])) rfl rfl (hb hby at_86)
    have V_455 : Arv Z h_455 b_1 k_1 .char (7 : Int32) [(.int (105 : Int32)), (.int c1), (.int c2), (.int c3), (.int c4), (.int c5), (.int c6)] (.int (0 : Int32)) := Arv.set Ar_455 q_455 S_455 M_455 H_455 G_455 (fits_nar_char _) W_455 0 rfl (Nat.le_of_ble_eq_true rfl)
    have N_455 := Fr.snoc X_455 N_28 (Nat.le_trans Z0 (Nat.le_of_eq g_1.symm))
    refine own_via st_455 ?_
    show own_Go p e below _ (T_455.setTop (mkF m 87 #[.val (.int p1), .val (.int p2), .val (.long q3), .second, .val (.int p4), .val (.int p5), .val (.int p6), .val (.int (p1 &&& (3 : Int32))), .val (.ref b_1), .unset, .unset, .unset, .unset, .unset, .unset, .unset] []))
    refine own_via (fun _ => XS.aload X_455.here hx rfl (hb hby at_87) rfl rfl) ?_
    show own_Go p e below _ (T_455.setTop (mkF m 89 #[.val (.int p1), .val (.int p2), .val (.long q3), .second, .val (.int p4), .val (.int p5), .val (.int p6), .val (.int (p1 &&& (3 : Int32))), .val (.ref b_1), .unset, .unset, .unset, .unset, .unset, .unset, .unset] [(.ref b_1)]))
    refine own_via (fun _ => XS.iconst X_455.here hx rfl (hb hby at_89)) ?_
    show own_Go p e below _ (T_455.setTop (mkF m 90 #[.val (.int p1), .val (.int p2), .val (.long q3), .second, .val (.int p4), .val (.int p5), .val (.int p6), .val (.int (p1 &&& (3 : Int32))), .val (.ref b_1), .unset, .unset, .unset, .unset, .unset, .unset, .unset] [(.int (1 : Int32)), (.ref b_1)]))
    refine own_via (fun _ => XS.bipush X_455.here hx rfl (hb hby at_90)) ?_
    show own_Go p e below _ (T_455.setTop (mkF m 92 #[.val (.int p1), .val (.int p2), .val (.long q3), .second, .val (.int p4), .val (.int p5), .val (.int p6), .val (.int (p1 &&& (3 : Int32))), .val (.ref b_1), .unset, .unset, .unset, .unset, .unset, .unset, .unset] [(.int (110 : Int32)), (.int (1 : Int32)), (.ref b_1)]))
    obtain ⟨cl_456, Ar_456, q_456, S_456, M_456, H_456, G_456⟩ := (id V_455)
    obtain ⟨T_456, h_456, X_456, e_456, W_456, st_456⟩ := stC X_455 hx hZ e_455 Ar_456 (j := (1 : Int32)) (inb_of S_456 ⟨by decide, by decide⟩) (g := (mkF m 92 #[.val (.int p1), .val (.int p2), .val (.long q3), .second, .val (.int p4), .val (.int p5), .val (.int p6), .val (.int (p1 &&& (3 : Int32))), .val (.ref b_1), .unset, .unset, .unset, .unset, .unset, .unset, .unset] [(.int (110 : Int32)), (.int (1 : Int32)), (.ref b_1)])) rfl rfl (hb hby at_92)
    have V_456 : Arv Z h_456 b_1 k_1 .char (7 : Int32) [(.int (105 : Int32)), (.int (110 : Int32)), (.int c2), (.int c3), (.int c4), (.int c5), (.int c6)] (.int (0 : Int32)) := Arv.set Ar_456 q_456 S_456 M_456 H_456 G_456 (fits_nar_char _) W_456 1 rfl (Nat.le_of_ble_eq_true rfl)
    have N_456 := Fr.snoc X_456 N_455 (Nat.le_trans Z0 (Nat.le_of_eq g_1.symm))
    refine own_via st_456 ?_
    show own_Go p e below _ (T_456.setTop (mkF m 93 #[.val (.int p1), .val (.int p2), .val (.long q3), .second, .val (.int p4), .val (.int p5), .val (.int p6), .val (.int (p1 &&& (3 : Int32))), .val (.ref b_1), .unset, .unset, .unset, .unset, .unset, .unset, .unset] []))
    refine own_via (fun _ => XS.aload X_456.here hx rfl (hb hby at_93) rfl rfl) ?_
    show own_Go p e below _ (T_456.setTop (mkF m 95 #[.val (.int p1), .val (.int p2), .val (.long q3), .second, .val (.int p4), .val (.int p5), .val (.int p6), .val (.int (p1 &&& (3 : Int32))), .val (.ref b_1), .unset, .unset, .unset, .unset, .unset, .unset, .unset] [(.ref b_1)]))
    refine own_via (fun _ => XS.iconst X_456.here hx rfl (hb hby at_95)) ?_
    show own_Go p e below _ (T_456.setTop (mkF m 96 #[.val (.int p1), .val (.int p2), .val (.long q3), .second, .val (.int p4), .val (.int p5), .val (.int p6), .val (.int (p1 &&& (3 : Int32))), .val (.ref b_1), .unset, .unset, .unset, .unset, .unset, .unset, .unset] [(.int (2 : Int32)), (.ref b_1)]))
    refine own_via (fun _ => XS.bipush X_456.here hx rfl (hb hby at_96)) ?_
    show own_Go p e below _ (T_456.setTop (mkF m 98 #[.val (.int p1), .val (.int p2), .val (.long q3), .second, .val (.int p4), .val (.int p5), .val (.int p6), .val (.int (p1 &&& (3 : Int32))), .val (.ref b_1), .unset, .unset, .unset, .unset, .unset, .unset, .unset] [(.int (116 : Int32)), (.int (2 : Int32)), (.ref b_1)]))
    obtain ⟨cl_457, Ar_457, q_457, S_457, M_457, H_457, G_457⟩ := (id V_456)
    obtain ⟨T_457, h_457, X_457, e_457, W_457, st_457⟩ := stC X_456 hx hZ e_456 Ar_457 (j := (2 : Int32)) (inb_of S_457 ⟨by decide, by decide⟩) (g := (mkF m 98 #[.val (.int p1), .val (.int p2), .val (.long q3), .second, .val (.int p4), .val (.int p5), .val (.int p6), .val (.int (p1 &&& (3 : Int32))), .val (.ref b_1), .unset, .unset, .unset, .unset, .unset, .unset, .unset] [(.int (116 : Int32)), (.int (2 : Int32)), (.ref b_1)])) rfl rfl (hb hby at_98)
    have V_457 : Arv Z h_457 b_1 k_1 .char (7 : Int32) [(.int (105 : Int32)), (.int (110 : Int32)), (.int (116 : Int32)), (.int c3), (.int c4), (.int c5), (.int c6)] (.int (0 : Int32)) := Arv.set Ar_457 q_457 S_457 M_457 H_457 G_457 (fits_nar_char _) W_457 2 rfl (Nat.le_of_ble_eq_true rfl)
    have N_457 := Fr.snoc X_457 N_456 (Nat.le_trans Z0 (Nat.le_of_eq g_1.symm))
    refine own_via st_457 ?_
    show own_Go p e below _ (T_457.setTop (mkF m 99 #[.val (.int p1), .val (.int p2), .val (.long q3), .second, .val (.int p4), .val (.int p5), .val (.int p6), .val (.int (p1 &&& (3 : Int32))), .val (.ref b_1), .unset, .unset, .unset, .unset, .unset, .unset, .unset] []))
    refine own_via (fun _ => XS.goto X_457.here hx rfl (pc0 := 99) (pc' := 151) rfl (hb hby at_99) (by decide) (by decide)) ?_
    show own_Go p e below _ (T_457.setTop (mkF m 151 #[.val (.int p1), .val (.int p2), .val (.long q3), .second, .val (.int p4), .val (.int p5), .val (.int p6), .val (.int (p1 &&& (3 : Int32))), .val (.ref b_1), .unset, .unset, .unset, .unset, .unset, .unset, .unset] []))
    have K_458 : Keep h_28 h_455 [b_1] := Keep.wr (ws := [b_1]) (own_keep_mono (Keep.refl h_28 []) (by simp)) W_455 (Or.inl (List.mem_of_getElem? (i := 0) rfl))
    have K_459 : Keep h_28 h_456 [b_1] := Keep.wr (ws := [b_1]) K_458 W_456 (Or.inl (List.mem_of_getElem? (i := 0) rfl))
    have K_460 : Keep h_28 h_457 [b_1] := Keep.wr (ws := [b_1]) K_459 W_457 (Or.inl (List.mem_of_getElem? (i := 0) rfl))
    exact kj_30 _ _ (105 : Int32) (by decide) (110 : Int32) (by decide) (116 : Int32) (by decide) c3 q_15_0 c4 q_19_0 c5 q_23_0 c6 q_27_0 X_457 _ e_457 K_460 V_457 N_457
  · refine own_via (fun _ => XS.ifYes X_28.here hx rfl (pc0 := 78) (pc' := 102) rfl (hb hby at_78) rfl ((if0 _ _).trans (feq (hk0 : ¬ ((p1 &&& (3 : Int32)) = (0 : Int32)))).2) (by decide) (by decide)) ?_
    show own_Go p e below _ (T_28.setTop (mkF m 102 #[.val (.int p1), .val (.int p2), .val (.long q3), .second, .val (.int p4), .val (.int p5), .val (.int p6), .val (.int (p1 &&& (3 : Int32))), .val (.ref b_1), .unset, .unset, .unset, .unset, .unset, .unset, .unset] []))
    refine own_via (fun _ => XS.iload X_28.here hx rfl (hb hby at_102) rfl) ?_
    show own_Go p e below _ (T_28.setTop (mkF m 104 #[.val (.int p1), .val (.int p2), .val (.long q3), .second, .val (.int p4), .val (.int p5), .val (.int p6), .val (.int (p1 &&& (3 : Int32))), .val (.ref b_1), .unset, .unset, .unset, .unset, .unset, .unset, .unset] [(.int (p1 &&& (3 : Int32)))]))
    refine own_via (fun _ => XS.iconst X_28.here hx rfl (hb hby at_104)) ?_
    show own_Go p e below _ (T_28.setTop (mkF m 105 #[.val (.int p1), .val (.int p2), .val (.long q3), .second, .val (.int p4), .val (.int p5), .val (.int p6), .val (.int (p1 &&& (3 : Int32))), .val (.ref b_1), .unset, .unset, .unset, .unset, .unset, .unset, .unset] [(.int (1 : Int32)), (.int (p1 &&& (3 : Int32)))]))
    by_cases hk1 : (p1 &&& (3 : Int32)) = (1 : Int32)
    · refine own_via (fun _ => XS.icmpNo X_28.here hx rfl (hb hby at_105) rfl (teq (hk1 : (p1 &&& (3 : Int32)) = (1 : Int32))).2) ?_
      show own_Go p e below _ (T_28.setTop (mkF m 108 #[.val (.int p1), .val (.int p2), .val (.long q3), .second, .val (.int p4), .val (.int p5), .val (.int p6), .val (.int (p1 &&& (3 : Int32))), .val (.ref b_1), .unset, .unset, .unset, .unset, .unset, .unset, .unset] []))
      refine own_via (fun _ => XS.aload X_28.here hx rfl (hb hby at_108) rfl rfl) ?_
      show own_Go p e below _ (T_28.setTop (mkF m 110 #[.val (.int p1), .val (.int p2), .val (.long q3), .second, .val (.int p4), .val (.int p5), .val (.int p6), .val (.int (p1 &&& (3 : Int32))), .val (.ref b_1), .unset, .unset, .unset, .unset, .unset, .unset, .unset] [(.ref b_1)]))
      refine own_via (fun _ => XS.iconst X_28.here hx rfl (hb hby at_110)) ?_
      show own_Go p e below _ (T_28.setTop (mkF m 111 #[.val (.int p1), .val (.int p2), .val (.long q3), .second, .val (.int p4), .val (.int p5), .val (.int p6), .val (.int (p1 &&& (3 : Int32))), .val (.ref b_1), .unset, .unset, .unset, .unset, .unset, .unset, .unset] [(.int (0 : Int32)), (.ref b_1)]))
      refine own_via (fun _ => XS.bipush X_28.here hx rfl (hb hby at_111)) ?_
      show own_Go p e below _ (T_28.setTop (mkF m 113 #[.val (.int p1), .val (.int p2), .val (.long q3), .second, .val (.int p4), .val (.int p5), .val (.int p6), .val (.int (p1 &&& (3 : Int32))), .val (.ref b_1), .unset, .unset, .unset, .unset, .unset, .unset, .unset] [(.int (98 : Int32)), (.int (0 : Int32)), (.ref b_1)]))
      obtain ⟨cl_461, Ar_461, q_461, S_461, M_461, H_461, G_461⟩ := (id V_29)
      obtain ⟨T_461, h_461, X_461, e_461, W_461, st_461⟩ := stC X_28 hx hZ e_28 Ar_461 (j := (0 : Int32)) (inb_of S_461 ⟨by decide, by decide⟩) (g := (mkF m 113 #[.val (.int p1), .val (.int p2), .val (.long q3), .second, .val (.int p4), .val (.int p5), .val (.int p6), .val (.int (p1 &&& (3 : Int32))), .val (.ref b_1), .unset, .unset, .unset, .unset, .unset, .unset, .unset] [(.int (98 : Int32)), (.int (0 : Int32)), (.ref b_1)])) rfl rfl (hb hby at_113)
      have V_461 : Arv Z h_461 b_1 k_1 .char (7 : Int32) [(.int (98 : Int32)), (.int c1), (.int c2), (.int c3), (.int c4), (.int c5), (.int c6)] (.int (0 : Int32)) := Arv.set Ar_461 q_461 S_461 M_461 H_461 G_461 (fits_nar_char _) W_461 0 rfl (Nat.le_of_ble_eq_true rfl)
      have N_461 := Fr.snoc X_461 N_28 (Nat.le_trans Z0 (Nat.le_of_eq g_1.symm))
      refine own_via st_461 ?_
      show own_Go p e below _ (T_461.setTop (mkF m 114 #[.val (.int p1), .val (.int p2), .val (.long q3), .second, .val (.int p4), .val (.int p5), .val (.int p6), .val (.int (p1 &&& (3 : Int32))), .val (.ref b_1), .unset, .unset, .unset, .unset, .unset, .unset, .unset] []))
      refine own_via (fun _ => XS.aload X_461.here hx rfl (hb hby at_114) rfl rfl) ?_
      show own_Go p e below _ (T_461.setTop (mkF m 116 #[.val (.int p1), .val (.int p2), .val (.long q3), .second, .val (.int p4), .val (.int p5), .val (.int p6), .val (.int (p1 &&& (3 : Int32))), .val (.ref b_1), .unset, .unset, .unset, .unset, .unset, .unset, .unset] [(.ref b_1)]))
      refine own_via (fun _ => XS.iconst X_461.here hx rfl (hb hby at_116)) ?_
      show own_Go p e below _ (T_461.setTop (mkF m 117 #[.val (.int p1), .val (.int p2), .val (.long q3), .second, .val (.int p4), .val (.int p5), .val (.int p6), .val (.int (p1 &&& (3 : Int32))), .val (.ref b_1), .unset, .unset, .unset, .unset, .unset, .unset, .unset] [(.int (1 : Int32)), (.ref b_1)]))
      refine own_via (fun _ => XS.bipush X_461.here hx rfl (hb hby at_117)) ?_
      show own_Go p e below _ (T_461.setTop (mkF m 119 #[.val (.int p1), .val (.int p2), .val (.long q3), .second, .val (.int p4), .val (.int p5), .val (.int p6), .val (.int (p1 &&& (3 : Int32))), .val (.ref b_1), .unset, .unset, .unset, .unset, .unset, .unset, .unset] [(.int (111 : Int32)), (.int (1 : Int32)), (.ref b_1)]))
      obtain ⟨cl_462, Ar_462, q_462, S_462, M_462, H_462, G_462⟩ := (id V_461)
      obtain ⟨T_462, h_462, X_462, e_462, W_462, st_462⟩ := stC X_461 hx hZ e_461 Ar_462 (j := (1 : Int32)) (inb_of S_462 ⟨by decide, by decide⟩) (g := (mkF m 119 #[.val (.int p1), .val (.int p2), .val (.long q3), .second, .val (.int p4), .val (.int p5), .val (.int p6), .val (.int (p1 &&& (3 : Int32))), .val (.ref b_1), .unset, .unset, .unset, .unset, .unset, .unset, .unset] [(.int (111 : Int32)), (.int (1 : Int32)), (.ref b_1)])) rfl rfl (hb hby at_119)
      have V_462 : Arv Z h_462 b_1 k_1 .char (7 : Int32) [(.int (98 : Int32)), (.int (111 : Int32)), (.int c2), (.int c3), (.int c4), (.int c5), (.int c6)] (.int (0 : Int32)) := Arv.set Ar_462 q_462 S_462 M_462 H_462 G_462 (fits_nar_char _) W_462 1 rfl (Nat.le_of_ble_eq_true rfl)
      have N_462 := Fr.snoc X_462 N_461 (Nat.le_trans Z0 (Nat.le_of_eq g_1.symm))
      refine own_via st_462 ?_
      show own_Go p e below _ (T_462.setTop (mkF m 120 #[.val (.int p1), .val (.int p2), .val (.long q3), .second, .val (.int p4), .val (.int p5), .val (.int p6), .val (.int (p1 &&& (3 : Int32))), .val (.ref b_1), .unset, .unset, .unset, .unset, .unset, .unset, .unset] []))
      refine own_via (fun _ => XS.aload X_462.here hx rfl (hb hby at_120) rfl rfl) ?_
      show own_Go p e below _ (T_462.setTop (mkF m 122 #[.val (.int p1), .val (.int p2), .val (.long q3), .second, .val (.int p4), .val (.int p5), .val (.int p6), .val (.int (p1 &&& (3 : Int32))), .val (.ref b_1), .unset, .unset, .unset, .unset, .unset, .unset, .unset] [(.ref b_1)]))
      refine own_via (fun _ => XS.iconst X_462.here hx rfl (hb hby at_122)) ?_
      show own_Go p e below _ (T_462.setTop (mkF m 123 #[.val (.int p1), .val (.int p2), .val (.long q3), .second, .val (.int p4), .val (.int p5), .val (.int p6), .val (.int (p1 &&& (3 : Int32))), .val (.ref b_1), .unset, .unset, .unset, .unset, .unset, .unset, .unset] [(.int (2 : Int32)), (.ref b_1)]))
      refine own_via (fun _ => XS.bipush X_462.here hx rfl (hb hby at_123)) ?_
      show own_Go p e below _ (T_462.setTop (mkF m 125 #[.val (.int p1), .val (.int p2), .val (.long q3), .second, .val (.int p4), .val (.int p5), .val (.int p6), .val (.int (p1 &&& (3 : Int32))), .val (.ref b_1), .unset, .unset, .unset, .unset, .unset, .unset, .unset] [(.int (111 : Int32)), (.int (2 : Int32)), (.ref b_1)]))
      obtain ⟨cl_463, Ar_463, q_463, S_463, M_463, H_463, G_463⟩ := (id V_462)
      obtain ⟨T_463, h_463, X_463, e_463, W_463, st_463⟩ := stC X_462 hx hZ e_462 Ar_463 (j := (2 : Int32)) (inb_of S_463 ⟨by decide, by decide⟩) (g := (mkF m 125 #[.val (.int p1), .val (.int p2), .val (.long q3), .second, .val (.int p4), .val (.int p5), .val (.int p6), .val (.int (p1 &&& (3 : Int32))), .val (.ref b_1), .unset, .unset, .unset, .unset, .unset, .unset, .unset] [(.int (111 : Int32)), (.int (2 : Int32)), (.ref b_1)])) rfl rfl (hb hby at_125)
      have V_463 : Arv Z h_463 b_1 k_1 .char (7 : Int32) [(.int (98 : Int32)), (.int (111 : Int32)), (.int (111 : Int32)), (.int c3), (.int c4), (.int c5), (.int c6)] (.int (0 : Int32)) := Arv.set Ar_463 q_463 S_463 M_463 H_463 G_463 (fits_nar_char _) W_463 2 rfl (Nat.le_of_ble_eq_true rfl)
      have N_463 := Fr.snoc X_463 N_462 (Nat.le_trans Z0 (Nat.le_of_eq g_1.symm))
      refine own_via st_463 ?_
      show own_Go p e below _ (T_463.setTop (mkF m 126 #[.val (.int p1), .val (.int p2), .val (.long q3), .second, .val (.int p4), .val (.int p5), .val (.int p6), .val (.int (p1 &&& (3 : Int32))), .val (.ref b_1), .unset, .unset, .unset, .unset, .unset, .unset, .unset] []))
      refine own_via (fun _ => XS.aload X_463.here hx rfl (hb hby at_126) rfl rfl) ?_
      show own_Go p e below _ (T_463.setTop (mkF m 128 #[.val (.int p1), .val (.int p2), .val (.long q3), .second, .val (.int p4), .val (.int p5), .val (.int p6), .val (.int (p1 &&& (3 : Int32))), .val (.ref b_1), .unset, .unset, .unset, .unset, .unset, .unset, .unset] [(.ref b_1)]))
      refine own_via (fun _ => XS.iconst X_463.here hx rfl (hb hby at_128)) ?_
      show own_Go p e below _ (T_463.setTop (mkF m 129 #[.val (.int p1), .val (.int p2), .val (.long q3), .second, .val (.int p4), .val (.int p5), .val (.int p6), .val (.int (p1 &&& (3 : Int32))), .val (.ref b_1), .unset, .unset, .unset, .unset, .unset, .unset, .unset] [(.int (3 : Int32)), (.ref b_1)]))
      refine own_via (fun _ => XS.bipush X_463.here hx rfl (hb hby at_129)) ?_
      show own_Go p e below _ (T_463.setTop (mkF m 131 #[.val (.int p1), .val (.int p2), .val (.long q3), .second, .val (.int p4), .val (.int p5), .val (.int p6), .val (.int (p1 &&& (3 : Int32))), .val (.ref b_1), .unset, .unset, .unset, .unset, .unset, .unset, .unset] [(.int (108 : Int32)), (.int (3 : Int32)), (.ref b_1)]))
      obtain ⟨cl_464, Ar_464, q_464, S_464, M_464, H_464, G_464⟩ := (id V_463)
      obtain ⟨T_464, h_464, X_464, e_464, W_464, st_464⟩ := stC X_463 hx hZ e_463 Ar_464 (j := (3 : Int32)) (inb_of S_464 ⟨by decide, by decide⟩) (g := (mkF m 131 #[.val (.int p1), .val (.int p2), .val (.long q3), .second, .val (.int p4), .val (.int p5), .val (.int p6), .val (.int (p1 &&& (3 : Int32))), .val (.ref b_1), .unset, .unset, .unset, .unset, .unset, .unset, .unset] [(.int (108 : Int32)), (.int (3 : Int32)), (.ref b_1)])) rfl rfl (hb hby at_131)
      have V_464 : Arv Z h_464 b_1 k_1 .char (7 : Int32) [(.int (98 : Int32)), (.int (111 : Int32)), (.int (111 : Int32)), (.int (108 : Int32)), (.int c4), (.int c5), (.int c6)] (.int (0 : Int32)) := Arv.set Ar_464 q_464 S_464 M_464 H_464 G_464 (fits_nar_char _) W_464 3 rfl (Nat.le_of_ble_eq_true rfl)
      have N_464 := Fr.snoc X_464 N_463 (Nat.le_trans Z0 (Nat.le_of_eq g_1.symm))
      refine own_via st_464 ?_
      show own_Go p e below _ (T_464.setTop (mkF m 132 #[.val (.int p1), .val (.int p2), .val (.long q3), .second, .val (.int p4), .val (.int p5), .val (.int p6), .val (.int (p1 &&& (3 : Int32))), .val (.ref b_1), .unset, .unset, .unset, .unset, .unset, .unset, .unset] []))
      refine own_via (fun _ => XS.aload X_464.here hx rfl (hb hby at_132) rfl rfl) ?_
      show own_Go p e below _ (T_464.setTop (mkF m 134 #[.val (.int p1), .val (.int p2), .val (.long q3), .second, .val (.int p4), .val (.int p5), .val (.int p6), .val (.int (p1 &&& (3 : Int32))), .val (.ref b_1), .unset, .unset, .unset, .unset, .unset, .unset, .unset] [(.ref b_1)]))
      refine own_via (fun _ => XS.iconst X_464.here hx rfl (hb hby at_134)) ?_
      show own_Go p e below _ (T_464.setTop (mkF m 135 #[.val (.int p1), .val (.int p2), .val (.long q3), .second, .val (.int p4), .val (.int p5), .val (.int p6), .val (.int (p1 &&& (3 : Int32))), .val (.ref b_1), .unset, .unset, .unset, .unset, .unset, .unset, .unset] [(.int (4 : Int32)), (.ref b_1)]))
      refine own_via (fun _ => XS.bipush X_464.here hx rfl (hb hby at_135)) ?_
      show own_Go p e below _ (T_464.setTop (mkF m 137 #[.val (.int p1), .val (.int p2), .val (.long q3), .second, .val (.int p4), .val (.int p5), .val (.int p6), .val (.int (p1 &&& (3 : Int32))), .val (.ref b_1), .unset, .unset, .unset, .unset, .unset, .unset, .unset] [(.int (101 : Int32)), (.int (4 : Int32)), (.ref b_1)]))
      obtain ⟨cl_465, Ar_465, q_465, S_465, M_465, H_465, G_465⟩ := (id V_464)
      obtain ⟨T_465, h_465, X_465, e_465, W_465, st_465⟩ := stC X_464 hx hZ e_464 Ar_465 (j := (4 : Int32)) (inb_of S_465 ⟨by decide, by decide⟩) (g := (mkF m 137 #[.val (.int p1), .val (.int p2), .val (.long q3), .second, .val (.int p4), .val (.int p5), .val (.int p6), .val (.int (p1 &&& (3 : Int32))), .val (.ref b_1), .unset, .unset, .unset, .unset, .unset, .unset, .unset] [(.int (101 : Int32)), (.int (4 : Int32)), (.ref b_1)])) rfl rfl (hb hby at_137)
      have V_465 : Arv Z h_465 b_1 k_1 .char (7 : Int32) [(.int (98 : Int32)), (.int (111 : Int32)), (.int (111 : Int32)), (.int (108 : Int32)), (.int (101 : Int32)), (.int c5), (.int c6)] (.int (0 : Int32)) := Arv.set Ar_465 q_465 S_465 M_465 H_465 G_465 (fits_nar_char _) W_465 4 rfl (Nat.le_of_ble_eq_true rfl)
      have N_465 := Fr.snoc X_465 N_464 (Nat.le_trans Z0 (Nat.le_of_eq g_1.symm))
      refine own_via st_465 ?_
      show own_Go p e below _ (T_465.setTop (mkF m 138 #[.val (.int p1), .val (.int p2), .val (.long q3), .second, .val (.int p4), .val (.int p5), .val (.int p6), .val (.int (p1 &&& (3 : Int32))), .val (.ref b_1), .unset, .unset, .unset, .unset, .unset, .unset, .unset] []))
      refine own_via (fun _ => XS.aload X_465.here hx rfl (hb hby at_138) rfl rfl) ?_
      show own_Go p e below _ (T_465.setTop (mkF m 140 #[.val (.int p1), .val (.int p2), .val (.long q3), .second, .val (.int p4), .val (.int p5), .val (.int p6), .val (.int (p1 &&& (3 : Int32))), .val (.ref b_1), .unset, .unset, .unset, .unset, .unset, .unset, .unset] [(.ref b_1)]))
      refine own_via (fun _ => XS.iconst X_465.here hx rfl (hb hby at_140)) ?_
      show own_Go p e below _ (T_465.setTop (mkF m 141 #[.val (.int p1), .val (.int p2), .val (.long q3), .second, .val (.int p4), .val (.int p5), .val (.int p6), .val (.int (p1 &&& (3 : Int32))), .val (.ref b_1), .unset, .unset, .unset, .unset, .unset, .unset, .unset] [(.int (5 : Int32)), (.ref b_1)]))
      refine own_via (fun _ => XS.bipush X_465.here hx rfl (hb hby at_141)) ?_
      show own_Go p e below _ (T_465.setTop (mkF m 143 #[.val (.int p1), .val (.int p2), .val (.long q3), .second, .val (.int p4), .val (.int p5), .val (.int p6), .val (.int (p1 &&& (3 : Int32))), .val (.ref b_1), .unset, .unset, .unset, .unset, .unset, .unset, .unset] [(.int (97 : Int32)), (.int (5 : Int32)), (.ref b_1)]))
      obtain ⟨cl_466, Ar_466, q_466, S_466, M_466, H_466, G_466⟩ := (id V_465)
      obtain ⟨T_466, h_466, X_466, e_466, W_466, st_466⟩ := stC X_465 hx hZ e_465 Ar_466 (j := (5 : Int32)) (inb_of S_466 ⟨by decide, by decide⟩) (g := (mkF m 143 #[.val (.int p1), .val (.int p2), .val (.long q3), .second, .val (.int p4), .val (.int p5), .val (.int p6), .val (.int (p1 &&& (3 : Int32))), .val (.ref b_1), .unset, .unset, .unset, .unset, .unset, .unset, .unset] [(.int (97 : Int32)), (.int (5 : Int32)), (.ref b_1)])) rfl rfl (hb hby at_143)
      have V_466 : Arv Z h_466 b_1 k_1 .char (7 : Int32) [(.int (98 : Int32)), (.int (111 : Int32)), (.int (111 : Int32)), (.int (108 : Int32)), (.int (101 : Int32)), (.int (97 : Int32)), (.int c6)] (.int (0 : Int32)) := Arv.set Ar_466 q_466 S_466 M_466 H_466 G_466 (fits_nar_char _) W_466 5 rfl (Nat.le_of_ble_eq_true rfl)
      have N_466 := Fr.snoc X_466 N_465 (Nat.le_trans Z0 (Nat.le_of_eq g_1.symm))
      refine own_via st_466 ?_
      show own_Go p e below _ (T_466.setTop (mkF m 144 #[.val (.int p1), .val (.int p2), .val (.long q3), .second, .val (.int p4), .val (.int p5), .val (.int p6), .val (.int (p1 &&& (3 : Int32))), .val (.ref b_1), .unset, .unset, .unset, .unset, .unset, .unset, .unset] []))
      refine own_via (fun _ => XS.aload X_466.here hx rfl (hb hby at_144) rfl rfl) ?_
      show own_Go p e below _ (T_466.setTop (mkF m 146 #[.val (.int p1), .val (.int p2), .val (.long q3), .second, .val (.int p4), .val (.int p5), .val (.int p6), .val (.int (p1 &&& (3 : Int32))), .val (.ref b_1), .unset, .unset, .unset, .unset, .unset, .unset, .unset] [(.ref b_1)]))
      refine own_via (fun _ => XS.bipush X_466.here hx rfl (hb hby at_146)) ?_
      show own_Go p e below _ (T_466.setTop (mkF m 148 #[.val (.int p1), .val (.int p2), .val (.long q3), .second, .val (.int p4), .val (.int p5), .val (.int p6), .val (.int (p1 &&& (3 : Int32))), .val (.ref b_1), .unset, .unset, .unset, .unset, .unset, .unset, .unset] [(.int (6 : Int32)), (.ref b_1)]))
      refine own_via (fun _ => XS.bipush X_466.here hx rfl (hb hby at_148)) ?_
      show own_Go p e below _ (T_466.setTop (mkF m 150 #[.val (.int p1), .val (.int p2), .val (.long q3), .second, .val (.int p4), .val (.int p5), .val (.int p6), .val (.int (p1 &&& (3 : Int32))), .val (.ref b_1), .unset, .unset, .unset, .unset, .unset, .unset, .unset] [(.int (110 : Int32)), (.int (6 : Int32)), (.ref b_1)]))
      obtain ⟨cl_467, Ar_467, q_467, S_467, M_467, H_467, G_467⟩ := (id V_466)
      obtain ⟨T_467, h_467, X_467, e_467, W_467, st_467⟩ := stC X_466 hx hZ e_466 Ar_467 (j := (6 : Int32)) (inb_of S_467 ⟨by decide, by decide⟩) (g := (mkF m 150 #[.val (.int p1), .val (.int p2), .val (.long q3), .second, .val (.int p4), .val (.int p5), .val (.int p6), .val (.int (p1 &&& (3 : Int32))), .val (.ref b_1), .unset, .unset, .unset, .unset, .unset, .unset, .unset] [(.int (110 : Int32)), (.int (6 : Int32)), (.ref b_1)])) rfl rfl (hb hby at_150)
      have V_467 : Arv Z h_467 b_1 k_1 .char (7 : Int32) [(.int (98 : Int32)), (.int (111 : Int32)), (.int (111 : Int32)), (.int (108 : Int32)), (.int (101 : Int32)), (.int (97 : Int32)), (.int (110 : Int32))] (.int (0 : Int32)) := Arv.set Ar_467 q_467 S_467 M_467 H_467 G_467 (fits_nar_char _) W_467 6 rfl (Nat.le_of_ble_eq_true rfl)
      have N_467 := Fr.snoc X_467 N_466 (Nat.le_trans Z0 (Nat.le_of_eq g_1.symm))
      refine own_via st_467 ?_
      show own_Go p e below _ (T_467.setTop (mkF m 151 #[.val (.int p1), .val (.int p2), .val (.long q3), .second, .val (.int p4), .val (.int p5), .val (.int p6), .val (.int (p1 &&& (3 : Int32))), .val (.ref b_1), .unset, .unset, .unset, .unset, .unset, .unset, .unset] []))
      have K_468 : Keep h_28 h_461 [b_1] := Keep.wr (ws := [b_1]) (own_keep_mono (Keep.refl h_28 []) (by simp)) W_461 (Or.inl (List.mem_of_getElem? (i := 0) rfl))
      have K_469 : Keep h_28 h_462 [b_1] := Keep.wr (ws := [b_1]) K_468 W_462 (Or.inl (List.mem_of_getElem? (i := 0) rfl))
      have K_470 : Keep h_28 h_463 [b_1] := Keep.wr (ws := [b_1]) K_469 W_463 (Or.inl (List.mem_of_getElem? (i := 0) rfl))
      have K_471 : Keep h_28 h_464 [b_1] := Keep.wr (ws := [b_1]) K_470 W_464 (Or.inl (List.mem_of_getElem? (i := 0) rfl))
      have K_472 : Keep h_28 h_465 [b_1] := Keep.wr (ws := [b_1]) K_471 W_465 (Or.inl (List.mem_of_getElem? (i := 0) rfl))
      have K_473 : Keep h_28 h_466 [b_1] := Keep.wr (ws := [b_1]) K_472 W_466 (Or.inl (List.mem_of_getElem? (i := 0) rfl))
      have K_474 : Keep h_28 h_467 [b_1] := Keep.wr (ws := [b_1]) K_473 W_467 (Or.inl (List.mem_of_getElem? (i := 0) rfl))
      exact kj_30 _ _ (98 : Int32) (by decide) (111 : Int32) (by decide) (111 : Int32) (by decide) (108 : Int32) (by decide) (101 : Int32) (by decide) (97 : Int32) (by decide) (110 : Int32) (by decide) X_467 _ e_467 K_474 V_467 N_467
    · refine own_via (fun _ => XS.icmpYes X_28.here hx rfl (pc0 := 105) (pc' := 151) rfl (hb hby at_105) rfl (feq (hk1 : ¬ ((p1 &&& (3 : Int32)) = (1 : Int32)))).2 (by decide) (by decide)) ?_
      show own_Go p e below _ (T_28.setTop (mkF m 151 #[.val (.int p1), .val (.int p2), .val (.long q3), .second, .val (.int p4), .val (.int p5), .val (.int p6), .val (.int (p1 &&& (3 : Int32))), .val (.ref b_1), .unset, .unset, .unset, .unset, .unset, .unset, .unset] []))
      exact kj_30 _ _ c0 q_3_0 c1 q_7_0 c2 q_11_0 c3 q_15_0 c4 q_19_0 c5 q_23_0 c6 q_27_0 X_28 _ e_28 (own_keep_mono (Keep.refl h_28 []) (by simp)) V_29 N_28
set_option maxRecDepth 65536 in
set_option maxHeartbeats 40000000 in
theorem comes_1 {Post : Tables → Env → Array Value → State → Outcome → State → Prop} (hpost : ∀ tb e args s v u, (limb_1_1.after args s (.returned v) u = true ∧ limb_1_2.after args s (.returned v) u = true ∧ True) → FramedW s (.returned v) u (Jvm.fieldLocs frame_1_writes args s ++ Jvm.arrayLocs frame_1_arrays args s ++ Jvm.staticLocs frame_1_statics s) 24 3264 → Post tb e args s (.returned v) u) :
    ArmFor flags0 classFile x code maxLocals ret World_1 tables_1 room_1 Calls_1 rest_1 Pre_1 Post := by
  intro l hfl _ _ p e ha hc hk s m args below hf hA hF happ hP
  obtain ⟨hcalls, hrest, hpre⟩ := hP
  obtain ⟨-, -, -, hnamed, -, -, -, hat⟩ := (Spec.applies_iff hf).mp happ
  obtain ⟨hg, hn⟩ := and_e (Cond.before_iff.mp (show (Jvm.Cond.and given_1 narrow_1).before args s = true from hpre))
  obtain ⟨ga0, gb0⟩ := and_e hg
  obtain ⟨ga1, gb1⟩ := and_e gb0
  obtain ⟨ga2, gb2⟩ := and_e gb1
  obtain ⟨ga3, gb3⟩ := and_e gb2
  obtain ⟨ga4, gb4⟩ := and_e gb3
  obtain ⟨ga5, gb5⟩ := and_e gb4
  obtain ⟨w0, w1, w2, w3, w4, w5, rfl⟩ : ∃ w0 w1 w2 w3 w4 w5 : Value, args = #[w0, w1, w2, w3, w4, w5] := by
    have hs : args.size = 6 := by simpa [Cond.value, given_1] using ga0
    obtain ⟨L⟩ := args
    match L, hs with
    | [w0, w1, w2, w3, w4, w5], _ => exact ⟨w0, w1, w2, w3, w4, w5, rfl⟩
  have hw := fun d (hd : d ∈ tables_1) => atoms_spec (ws := Jvm.Cond.code x code maxLocals ret :: tables_1) hat d (List.mem_cons_of_mem _ hd)
  have hfit : Fit s := fun {y c} hc i hi => by
    obtain ⟨ha, rfl⟩ := Array.getElem?_eq_some_iff.mp hc
    have q := List.all_eq_true.mp ((Array.all_eq_true_iff_forall_mem.mp hF) _ (Array.getElem_mem ha)) i (List.mem_range.mpr hi)
    simpa [Array.getElem?_eq_getElem hi] using q
  obtain ⟨i0, ei0⟩ := is_v ga1
  obtain rfl : w0 = (.int i0) := Option.some.inj ei0
  obtain ⟨i1, ei1⟩ := is_v ga2
  obtain rfl : w1 = (.int i1) := Option.some.inj ei1
  obtain ⟨i2, ei2⟩ := isL_v ga3
  obtain rfl : w2 = (.long i2) := Option.some.inj ei2
  obtain ⟨i3, ei3⟩ := is_v ga4
  obtain rfl : w3 = (.int i3) := Option.some.inj ei3
  obtain ⟨i4, ei4⟩ := is_v ga5
  obtain rfl : w4 = (.int i4) := Option.some.inj ei4
  obtain ⟨i5, ei5⟩ := is_v gb5
  obtain rfl : w5 = (.int i5) := Option.some.inj ei5
  obtain ⟨hsets, hown0⟩ := atoms_of _ (rest_1_c_eq ▸ (show rest_1_c.before _ s = true from hrest))
  obtain ⟨cs, tcs⟩ := is_v (Cond.before_iff.mp (hsets _ (List.mem_of_getElem? (i := 1) rfl)))
  have Scs := Sta.start tcs (Or.inl (hsets _ (List.mem_of_getElem? (i := 0) rfl)))
  have hcs : ¬ (cs = (0 : Int32)) := fun q => by
    subst q
    have h1 := not_v (Cond.before_iff.mp (hsets _ (List.mem_of_getElem? (i := 2) rfl)))
    rw [eq_i tcs (Term.int_eval (0)) rfl] at h1
    cases h1
  have hcw : Jvm.Lit.compactW.before _ s = true := hsets _ (List.mem_of_getElem? (i := 2) rfl)
  have hhc : ∀ p ∈ consts_1, Jvm.Lit.constHeld s p.1 p.2 := fun p hp => hcalls.1 p hp
  have J0 : CHv s consts_1 s.vm s.heap := CHv.start (own_EW hw) hhc hcw (own_w hw 27 rfl) (own_w hw 10 rfl)
  obtain ⟨n, o, h1, h2, h3, _, L, rfl, ⟨rfl, N, -⟩, hq⟩ := rm0 l s _ hw tables_1 i0 i1 i2 i3 i4 i5 cs s.heap s.heap.size (Nat.le_refl _) (Old.start s) Scs hcs p e ha hc hk s m _ below hf ((Spec.applies_iff_loose hf).mp happ).1 ⟨rfl, State.Warmed39.refl s, rfl, J0⟩ trivial
  refine ⟨n, _, h1, h2, h3, hpost _ _ _ _ _ _ ⟨Cond.after_iff.mpr rfl, Cond.after_iff.mpr (eq_i res_at (Term.int_eval (1)) rfl), trivial⟩ ⟨hq.1, hq.2.1, hq.2.2.1, (hq.2.2.2.sift fun y hy => Or.inr (N y hy)).mono (by decide) (by decide)⟩⟩
theorem main_1_1 : Claimed_1_1 := comes_1 fun _ _ _ _ _ _ h hF => ⟨h.1, hF⟩
theorem main_1_2 : Claimed_1_2 := comes_1 fun _ _ _ _ _ _ h hF => ⟨h.2.1, hF⟩
end Jvm.Pilot.@@N@@
namespace Jvm.Pilot.@@N@@
open Jvm Jvm.ClassFile Sem Op Lib Jvm.Free Jvm.Stand Jvm.Pilot.@@N@@.Jvm.D
/-! MADE BY PROGRAM (witnessworld.py) out of the Statement's table words and the real class files: 18 classes; the members and pool entries that the words name. The judged class is class 1, her method 2. -/
namespace start1
open Jvm.ClassFile
def u (s : String) : CpInfo := .utf8 (stringToUtf16 s)
/-- a pool by its gaps: so many unusable entries, then the entry; so many at the end -/
def gap : Nat → List CpInfo → List CpInfo
  | 0, r => r
  | n + 1, r => .unusable :: gap n r
def poolList (es : List (Nat × CpInfo)) (last : Nat) : List CpInfo := es.foldr (fun e r => gap e.1 (e.2 :: r)) (gap last [])
def pool (es : List (Nat × CpInfo)) (last : Nat) : Array CpInfo := ⟨poolList es last⟩
def fileOf (pool : Array CpInfo) (this : Nat) (attrs : Array Attribute := #[]) (ms : Array MethodInfo := #[]) (fl : Nat := 33) (sup : Nat := 0) (ifs : Array Nat := #[]) (fds : Array FieldInfo := #[]) : ClassFile where
  minorVersion := 0
  majorVersion := 65
  constantPool := pool
  accessFlags := fl
  thisClass := this
  superClass := sup
  interfaces := ifs
  fields := fds
  methods := ms
  attributes := attrs
def plain (name : String) (sup : Option ClassId) : Class where
  name := name
  kind := .ordinary
  loader := none
  accessFlags := 33
  super := sup
  interfaces := #[]
  cf := none
  fields := #[]
  methods := #[]
  instanceTypes := #[]
  staticTypes := #[]
  resolved := #[]
  callSites := []
  init := .initialized
  statics := none
  mirror := none

def pool0 : Array CpInfo := pool [(5, u "<init>"), (0, u "()V"), (1, .class_ 10), (1, u "java/lang/Object")] 113

def k0c0 : Code := { maxStack := 0, maxLocals := 1, code := object_method_1_code, exceptionTable := #[], attributes := #[] }
def k0m0 : Method := { name := "<init>", desc := "()V", sig := { parameters := [], returnType := none }, accessFlags := 1, code := some k0c0 }
/-- java/lang/Object -/
def k0 : Class := { plain "java/lang/Object" none with
  accessFlags := 33
  interfaces := #[]
  cf := some (fileOf pool0 8 #[] #[{ accessFlags := 1, nameIndex := 5, descriptorIndex := 6, attributes := #[] }] 33 0 #[] #[])
  fields := #[]
  methods := #[k0m0]
  instanceTypes := #[]
  staticTypes := #[]
  resolved := Array.replicate 124 none
  statics := none }

def pool1 : Array CpInfo := pool [(2, .class_ 4), (1, u "java/lang/Object"), (0, u "<init>"), (0, u "()V"), (0, .long 255), (1, .methodref 10 11), (0, .class_ 12), (0, .nameAndType 13 14), (0, u "com/example/cascadilla/cascadilla/language/TypeIsClassPinLaw"), (0, u "drawn"), (0, u "(JI)C"), (0, .integer 2147483647), (0, .class_ 17), (0, u "com/example/cascadilla/cascadilla/language/Type"), (0, .class_ 19), (0, u "java/lang/String"), (0, .methodref 18 21), (0, .nameAndType 5 22), (0, u "([C)V"), (0, .methodref 16 24), (0, .nameAndType 5 25), (0, u "(Ljava/lang/String;Lcom/example/cascadilla/cascadilla/language/Label;I)V"), (0, .methodref 16 27), (0, .nameAndType 28 29), (0, u "isClass"), (0, u "()Z"), (2, u "law"), (0, u "(IIJIII)Z")] 5

def k1m0 : Method := { name := "<init>", desc := "()V", sig := { parameters := [], returnType := none }, accessFlags := 2, code := none }
def k1c1 : Code := { maxStack := 4, maxLocals := 3, code := method_2_code, exceptionTable := #[], attributes := #[] }
def k1m1 : Method := { name := "drawn", desc := "(JI)C", sig := { parameters := [.long, .int], returnType := some .char }, accessFlags := 10, code := some k1c1 }
def k1c2 : Code := { maxStack := 5, maxLocals := 16, code := code, exceptionTable := #[], attributes := #[] }
def k1m2 : Method := { name := "law", desc := "(IIJIII)Z", sig := { parameters := [.int, .int, .long, .int, .int, .int], returnType := some .boolean }, accessFlags := 9, code := some k1c2 }
/-- com/example/cascadilla/cascadilla/language/TypeIsClassPinLaw -/
def k1 : Class := { plain "com/example/cascadilla/cascadilla/language/TypeIsClassPinLaw" (some 0) with
  accessFlags := 49
  interfaces := #[]
  cf := some (fileOf pool1 10 #[] #[{ accessFlags := 2, nameIndex := 5, descriptorIndex := 6, attributes := #[] }, { accessFlags := 10, nameIndex := 13, descriptorIndex := 14, attributes := #[] }, { accessFlags := 9, nameIndex := 32, descriptorIndex := 33, attributes := #[] }] 49 2 #[] #[])
  fields := #[]
  methods := #[k1m0, k1m1, k1m2]
  instanceTypes := #[]
  staticTypes := #[]
  resolved := Array.replicate 39 none
  statics := none }

def pool2 : Array CpInfo := pool [(1, .methodref 2 3), (0, .class_ 4), (0, .nameAndType 5 6), (0, u "java/lang/Object"), (0, u "<init>"), (0, u "()V"), (0, .fieldref 8 9), (0, .class_ 10), (0, .nameAndType 11 12), (0, u "com/example/cascadilla/cascadilla/language/Type"), (0, u "name"), (0, u "Ljava/lang/String;"), (0, .fieldref 8 14), (0, .nameAndType 15 16), (0, u "label"), (0, u "Lcom/example/cascadilla/cascadilla/language/Label;"), (0, .fieldref 8 18), (0, .nameAndType 19 20), (0, u "line"), (0, u "I"), (0, .string 22), (0, u "int"), (0, .methodref 24 25), (0, .class_ 26), (0, .nameAndType 27 28), (0, u "java/lang/String"), (0, u "equals"), (0, u "(Ljava/lang/Object;)Z"), (0, .string 30), (0, u "boolean"), (11, u "INT"), (1, u "BOOLEAN"), (0, u "(Ljava/lang/String;Lcom/example/cascadilla/cascadilla/language/Label;I)V"), (5, u "isClass"), (0, u "()Z")] 5

def k2c0 : Code := { maxStack := 2, maxLocals := 4, code := prog_55_method_1_code, exceptionTable := #[], attributes := #[] }
def k2m0 : Method := { name := "<init>", desc := "(Ljava/lang/String;Lcom/example/cascadilla/cascadilla/language/Label;I)V", sig := { parameters := [(.object "java/lang/String"), (.object "com/example/cascadilla/cascadilla/language/Label"), .int], returnType := none }, accessFlags := 1, code := some k2c0 }
def k2c1 : Code := { maxStack := 2, maxLocals := 1, code := prog_55_method_5_code, exceptionTable := #[], attributes := #[] }
def k2m1 : Method := { name := "isClass", desc := "()Z", sig := { parameters := [], returnType := some .boolean }, accessFlags := 1, code := some k2c1 }
/-- com/example/cascadilla/cascadilla/language/Type -/
def k2 : Class := { plain "com/example/cascadilla/cascadilla/language/Type" (some 0) with
  accessFlags := 49
  interfaces := #[]
  cf := some (fileOf pool2 8 #[] #[{ accessFlags := 1, nameIndex := 5, descriptorIndex := 45, attributes := #[] }, { accessFlags := 1, nameIndex := 51, descriptorIndex := 52, attributes := #[] }] 49 2 #[] #[{ accessFlags := 25, nameIndex := 42, descriptorIndex := 12, attributes := #[] }, { accessFlags := 25, nameIndex := 44, descriptorIndex := 12, attributes := #[] }, { accessFlags := 18, nameIndex := 11, descriptorIndex := 12, attributes := #[] }, { accessFlags := 18, nameIndex := 15, descriptorIndex := 16, attributes := #[] }, { accessFlags := 18, nameIndex := 19, descriptorIndex := 20, attributes := #[] }])
  fields := #[{ name := "INT", type := (.object "java/lang/String"), accessFlags := 25, slot := 0, constantValue := 0 }, { name := "BOOLEAN", type := (.object "java/lang/String"), accessFlags := 25, slot := 1, constantValue := 0 }, { name := "name", type := (.object "java/lang/String"), accessFlags := 18, slot := 0, constantValue := 0 }, { name := "label", type := (.object "com/example/cascadilla/cascadilla/language/Label"), accessFlags := 18, slot := 1, constantValue := 0 }, { name := "line", type := .int, accessFlags := 18, slot := 2, constantValue := 0 }]
  methods := #[k2m0, k2m1]
  instanceTypes := #[(.object "java/lang/String"), (.object "com/example/cascadilla/cascadilla/language/Label"), .int]
  staticTypes := #[(.object "java/lang/String"), (.object "java/lang/String")]
  resolved := Array.replicate 58 none
  statics := none }

def pool3 : Array CpInfo := pool [(1, .class_ 2), (0, u "java/io/Serializable"), (0, .class_ 4), (0, u "java/lang/Object")] 2

/-- java/io/Serializable -/
def k3 : Class := { plain "java/io/Serializable" (some 0) with
  accessFlags := 1537
  interfaces := #[]
  cf := some (fileOf pool3 1 #[] #[] 1537 3 #[] #[])
  fields := #[]
  methods := #[]
  instanceTypes := #[]
  staticTypes := #[]
  resolved := Array.replicate 7 none
  statics := none }

def pool4 : Array CpInfo := pool [(1, .class_ 2), (0, u "java/lang/Comparable"), (0, .class_ 4), (0, u "java/lang/Object")] 7

/-- java/lang/Comparable -/
def k4 : Class := { plain "java/lang/Comparable" (some 0) with
  accessFlags := 1537
  interfaces := #[]
  cf := some (fileOf pool4 1 #[] #[] 1537 3 #[] #[])
  fields := #[]
  methods := #[]
  instanceTypes := #[]
  staticTypes := #[]
  resolved := Array.replicate 12 none
  statics := none }

def pool5 : Array CpInfo := pool [(2, .class_ 4), (1, u "java/lang/CharSequence"), (42, .class_ 48), (0, u "java/lang/CharSequence$1CodePointIterator"), (10, .class_ 60), (0, u "java/lang/CharSequence$1CharIterator"), (5, .class_ 67), (0, u "java/lang/Object")] 63

/-- java/lang/CharSequence -/
def k5 : Class := { plain "java/lang/CharSequence" (some 0) with
  accessFlags := 1537
  interfaces := #[]
  cf := some (fileOf pool5 2 #[.nestMembers #[47, 59]] #[] 1537 66 #[] #[])
  fields := #[]
  methods := #[]
  instanceTypes := #[]
  staticTypes := #[]
  resolved := Array.replicate 131 none
  statics := none }

def pool6 : Array CpInfo := pool [(1, .class_ 2), (0, u "java/lang/constant/Constable"), (0, .class_ 4), (0, u "java/lang/Object")] 6

/-- java/lang/constant/Constable -/
def k6 : Class := { plain "java/lang/constant/Constable" (some 0) with
  accessFlags := 1537
  interfaces := #[]
  cf := some (fileOf pool6 1 #[] #[] 1537 3 #[] #[])
  fields := #[]
  methods := #[]
  instanceTypes := #[]
  staticTypes := #[]
  resolved := Array.replicate 11 none
  statics := none }

def pool7 : Array CpInfo := pool [(1, .class_ 2), (0, u "java/lang/constant/ConstantDesc"), (0, .class_ 4), (0, u "java/lang/Object")] 32

/-- java/lang/constant/ConstantDesc -/
def k7 : Class := { plain "java/lang/constant/ConstantDesc" (some 0) with
  accessFlags := 1537
  interfaces := #[]
  cf := some (fileOf pool7 1 #[] #[] 1537 3 #[] #[])
  fields := #[]
  methods := #[]
  instanceTypes := #[]
  staticTypes := #[]
  resolved := Array.replicate 37 none
  statics := none }

def pool8 : Array CpInfo := pool [(1, .methodref 2 3), (0, .class_ 4), (0, .nameAndType 5 6), (0, u "java/lang/Object"), (0, u "<init>"), (0, u "()V"), (0, .string 8), (0, u ""), (0, .fieldref 10 11), (0, .class_ 12), (0, .nameAndType 13 14), (0, u "java/lang/String"), (0, u "value"), (0, u "[B"), (0, .fieldref 10 16), (0, .nameAndType 17 18), (0, u "coder"), (0, u "B"), (2, u "hash"), (0, u "I"), (2, u "hashIsZero"), (0, u "Z"), (0, .methodref 10 28), (0, .nameAndType 5 29), (0, u "([CIILjava/lang/Void;)V"), (8, .fieldref 10 39), (0, .nameAndType 40 26), (0, u "COMPACT_STRINGS"), (1, .class_ 44), (1, u "java/lang/StringUTF16"), (0, u "compress"), (1, .methodref 42 48), (0, .nameAndType 49 50), (0, u "coderFromArrayLen"), (0, u "([BI)B"), (56, .class_ 109), (1, u "java/lang/StringLatin1"), (67, .methodref 42 178), (0, .nameAndType 45 179), (0, u "([CII)[B"), (361, .methodref 107 542), (0, .nameAndType 543 544), (0, u "equals"), (0, u "([B[B)Z"), (28, u "(Ljava/lang/Object;)Z"), (1, .class_ 576), (0, u "java/lang/CharSequence"), (22, u "CASE_INSENSITIVE_ORDER"), (0, u "Ljava/util/Comparator;"), (409, u "([C)V"), (90, u "serialPersistentFields"), (0, u "[Ljava/io/ObjectStreamField;"), (0, .class_ 1104), (0, u "java/lang/String$CaseInsensitiveComparator"), (1, .class_ 1107), (0, u "java/io/Serializable"), (0, .class_ 1109), (0, u "java/lang/Comparable"), (0, .class_ 1111), (0, u "java/lang/constant/Constable"), (0, .class_ 1113), (0, u "java/lang/constant/ConstantDesc"), (2, u "serialVersionUID"), (0, u "J"), (3, u "REPL"), (0, u "C"), (2, u "LATIN1"), (1, u "UTF16")] 323

def k8m0 : Method := { name := "<init>", desc := "()V", sig := { parameters := [], returnType := none }, accessFlags := 1, code := none }
def k8c1 : Code := { maxStack := 5, maxLocals := 2, code := jdk_42_method_3_code, exceptionTable := #[], attributes := #[] }
def k8m1 : Method := { name := "<init>", desc := "([C)V", sig := { parameters := [(.array .char)], returnType := none }, accessFlags := 1, code := some k8c1 }
def k8c2 : Code := { maxStack := 2, maxLocals := 3, code := jdk_42_method_66_code, exceptionTable := #[], attributes := #[] }
def k8m2 : Method := { name := "equals", desc := "(Ljava/lang/Object;)Z", sig := { parameters := [(.object "java/lang/Object")], returnType := some .boolean }, accessFlags := 1, code := some k8c2 }
def k8c3 : Code := { maxStack := 4, maxLocals := 6, code := jdk_42_method_149_code, exceptionTable := #[], attributes := #[] }
def k8m3 : Method := { name := "<init>", desc := "([CIILjava/lang/Void;)V", sig := { parameters := [(.array .char), .int, .int, (.object "java/lang/Void")], returnType := none }, accessFlags := 2, code := some k8c3 }
/-- java/lang/String -/
def k8 : Class := { plain "java/lang/String" (some 0) with
  accessFlags := 49
  interfaces := #[3, 4, 5, 6, 7]
  cf := some (fileOf pool8 10 #[.nestMembers #[1103]] #[{ accessFlags := 1, nameIndex := 5, descriptorIndex := 6, attributes := #[] }, { accessFlags := 1, nameIndex := 5, descriptorIndex := 1010, attributes := #[] }, { accessFlags := 1, nameIndex := 543, descriptorIndex := 573, attributes := #[] }, { accessFlags := 2, nameIndex := 5, descriptorIndex := 29, attributes := #[] }] 49 2 #[1106, 1108, 575, 1110, 1112] #[{ accessFlags := 18, nameIndex := 13, descriptorIndex := 14, attributes := #[] }, { accessFlags := 18, nameIndex := 17, descriptorIndex := 18, attributes := #[] }, { accessFlags := 2, nameIndex := 21, descriptorIndex := 22, attributes := #[] }, { accessFlags := 2, nameIndex := 25, descriptorIndex := 26, attributes := #[] }, { accessFlags := 26, nameIndex := 1116, descriptorIndex := 1117, attributes := #[] }, { accessFlags := 24, nameIndex := 40, descriptorIndex := 26, attributes := #[] }, { accessFlags := 26, nameIndex := 1101, descriptorIndex := 1102, attributes := #[] }, { accessFlags := 26, nameIndex := 1121, descriptorIndex := 1122, attributes := #[] }, { accessFlags := 25, nameIndex := 599, descriptorIndex := 600, attributes := #[] }, { accessFlags := 24, nameIndex := 1125, descriptorIndex := 18, attributes := #[] }, { accessFlags := 24, nameIndex := 1127, descriptorIndex := 18, attributes := #[] }])
  fields := #[{ name := "value", type := (.array .byte), accessFlags := 18, slot := 0, constantValue := 0 }, { name := "coder", type := .byte, accessFlags := 18, slot := 1, constantValue := 0 }, { name := "hash", type := .int, accessFlags := 2, slot := 2, constantValue := 0 }, { name := "hashIsZero", type := .boolean, accessFlags := 2, slot := 3, constantValue := 0 }, { name := "serialVersionUID", type := .long, accessFlags := 26, slot := 0, constantValue := 0 }, { name := "COMPACT_STRINGS", type := .boolean, accessFlags := 24, slot := 1, constantValue := 0 }, { name := "serialPersistentFields", type := (.array (.object "java/io/ObjectStreamField")), accessFlags := 26, slot := 2, constantValue := 0 }, { name := "REPL", type := .char, accessFlags := 26, slot := 3, constantValue := 0 }, { name := "CASE_INSENSITIVE_ORDER", type := (.object "java/util/Comparator"), accessFlags := 25, slot := 4, constantValue := 0 }, { name := "LATIN1", type := .byte, accessFlags := 24, slot := 5, constantValue := 0 }, { name := "UTF16", type := .byte, accessFlags := 24, slot := 6, constantValue := 0 }]
  methods := #[k8m0, k8m1, k8m2, k8m3]
  instanceTypes := #[(.array .byte), .byte, .int, .boolean]
  staticTypes := #[.long, .boolean, (.array (.object "java/io/ObjectStreamField")), .char, (.object "java/util/Comparator"), .byte, .byte]
  resolved := Array.replicate 1451 none
  statics := some 0 }

def pool9 : Array CpInfo := pool [(6, .class_ 8), (1, u "java/lang/Object"), (0, u "<init>"), (0, u "()V"), (1, .class_ 14), (1, u "java/lang/StringUTF16"), (31, u "$assertionsDisabled"), (0, u "Z"), (13, u "HI_BYTE_SHIFT"), (0, u "I"), (2, u "LO_BYTE_SHIFT"), (49, .methodref 12 116), (0, .nameAndType 117 118), (0, u "compress"), (0, u "([CI[BII)I"), (3, u "([CII)[B"), (138, u "coderFromArrayLen"), (0, u "([BI)B"), (106, .class_ 371), (1, u "java/lang/StringUTF16$LinesSpliterator"), (58, u "MAX_LENGTH"), (196, .class_ 628), (0, u "java/lang/StringUTF16$CodePointsSpliterator"), (0, .class_ 630), (0, u "java/lang/StringUTF16$CharsSpliterator")] 4

def k9m0 : Method := { name := "<init>", desc := "()V", sig := { parameters := [], returnType := none }, accessFlags := 0, code := none }
def k9c1 : Code := { maxStack := 2, maxLocals := 2, code := jdk_52_method_15_code, exceptionTable := #[], attributes := #[] }
def k9m1 : Method := { name := "coderFromArrayLen", desc := "([BI)B", sig := { parameters := [(.array .byte), .int], returnType := some .byte }, accessFlags := 8, code := some k9c1 }
def k9c2 : Code := { maxStack := 5, maxLocals := 6, code := jdk_52_method_16_code, exceptionTable := #[], attributes := #[] }
def k9m2 : Method := { name := "compress", desc := "([CII)[B", sig := { parameters := [(.array .char), .int, .int], returnType := some (.array .byte) }, accessFlags := 9, code := some k9c2 }
def k9c3 : Code := { maxStack := 3, maxLocals := 7, code := jdk_52_method_21_code, exceptionTable := #[], attributes := #[] }
def k9m3 : Method := { name := "compress", desc := "([CI[BII)I", sig := { parameters := [(.array .char), .int, (.array .byte), .int, .int], returnType := some .int }, accessFlags := 9, code := some k9c3 }
/-- java/lang/StringUTF16 -/
def k9 : Class := { plain "java/lang/StringUTF16" (some 0) with
  accessFlags := 48
  interfaces := #[]
  cf := some (fileOf pool9 12 #[.nestMembers #[627, 629, 369]] #[{ accessFlags := 0, nameIndex := 9, descriptorIndex := 10, attributes := #[] }, { accessFlags := 8, nameIndex := 261, descriptorIndex := 262, attributes := #[] }, { accessFlags := 9, nameIndex := 117, descriptorIndex := 122, attributes := #[] }, { accessFlags := 9, nameIndex := 117, descriptorIndex := 118, attributes := #[] }] 48 6 #[] #[{ accessFlags := 26, nameIndex := 61, descriptorIndex := 62, attributes := #[] }, { accessFlags := 26, nameIndex := 65, descriptorIndex := 62, attributes := #[] }, { accessFlags := 24, nameIndex := 430, descriptorIndex := 62, attributes := #[] }, { accessFlags := 4120, nameIndex := 46, descriptorIndex := 47, attributes := #[] }])
  fields := #[{ name := "HI_BYTE_SHIFT", type := .int, accessFlags := 26, slot := 0, constantValue := 0 }, { name := "LO_BYTE_SHIFT", type := .int, accessFlags := 26, slot := 1, constantValue := 0 }, { name := "MAX_LENGTH", type := .int, accessFlags := 24, slot := 2, constantValue := 0 }, { name := "$assertionsDisabled", type := .boolean, accessFlags := 4120, slot := 3, constantValue := 0 }]
  methods := #[k9m0, k9m1, k9m2, k9m3]
  instanceTypes := #[]
  staticTypes := #[.int, .int, .int, .boolean]
  resolved := Array.replicate 635 none
  statics := none }

def pool10 : Array CpInfo := pool [(4, .class_ 6), (1, u "java/lang/Object"), (0, u "<init>"), (0, u "()V"), (5, .class_ 16), (1, u "java/lang/StringLatin1"), (104, u "$assertionsDisabled"), (0, u "Z"), (98, .class_ 223), (1, u "java/lang/StringLatin1$LinesSpliterator"), (57, u "equals"), (0, u "([B[B)Z"), (107, .class_ 391), (0, u "java/lang/StringLatin1$CharsSpliterator")] 3

def k10m0 : Method := { name := "<init>", desc := "()V", sig := { parameters := [], returnType := none }, accessFlags := 0, code := none }
def k10c1 : Code := { maxStack := 3, maxLocals := 3, code := jdk_43_method_13_code, exceptionTable := #[], attributes := #[] }
def k10m1 : Method := { name := "equals", desc := "([B[B)Z", sig := { parameters := [(.array .byte), (.array .byte)], returnType := some .boolean }, accessFlags := 9, code := some k10c1 }
/-- java/lang/StringLatin1 -/
def k10 : Class := { plain "java/lang/StringLatin1" (some 0) with
  accessFlags := 48
  interfaces := #[]
  cf := some (fileOf pool10 14 #[.nestMembers #[390, 221]] #[{ accessFlags := 0, nameIndex := 7, descriptorIndex := 8, attributes := #[] }, { accessFlags := 9, nameIndex := 281, descriptorIndex := 282, attributes := #[] }] 48 4 #[] #[{ accessFlags := 4120, nameIndex := 121, descriptorIndex := 122, attributes := #[] }])
  fields := #[{ name := "$assertionsDisabled", type := .boolean, accessFlags := 4120, slot := 0, constantValue := 0 }]
  methods := #[k10m0, k10m1]
  instanceTypes := #[]
  staticTypes := #[.boolean]
  resolved := Array.replicate 395 none
  statics := none }

def pool11 : Array CpInfo := pool [(2, .class_ 4), (1, u "java/lang/Object"), (0, u "<init>"), (0, u "()V"), (17, .class_ 26), (1, u "jdk/internal/util/Preconditions"), (28, .class_ 56), (0, u "jdk/internal/util/Preconditions$4"), (57, .class_ 115), (0, u "jdk/internal/util/Preconditions$1"), (7, u "SIOOBE_FORMATTER"), (0, u "Ljava/util/function/BiFunction;"), (0, .class_ 126), (0, u "jdk/internal/util/Preconditions$2"), (3, u "AIOOBE_FORMATTER"), (0, .class_ 132), (0, u "jdk/internal/util/Preconditions$3"), (3, u "IOOBE_FORMATTER")] 57

def k11m0 : Method := { name := "<init>", desc := "()V", sig := { parameters := [], returnType := none }, accessFlags := 1, code := none }
/-- jdk/internal/util/Preconditions -/
def k11 : Class := { plain "jdk/internal/util/Preconditions" (some 0) with
  accessFlags := 33
  interfaces := #[]
  cf := some (fileOf pool11 24 #[.nestMembers #[55, 131, 125, 114]] #[{ accessFlags := 1, nameIndex := 5, descriptorIndex := 6, attributes := #[] }] 33 2 #[] #[{ accessFlags := 25, nameIndex := 123, descriptorIndex := 124, attributes := #[] }, { accessFlags := 25, nameIndex := 130, descriptorIndex := 124, attributes := #[] }, { accessFlags := 25, nameIndex := 136, descriptorIndex := 124, attributes := #[] }])
  fields := #[{ name := "SIOOBE_FORMATTER", type := (.object "java/util/function/BiFunction"), accessFlags := 25, slot := 0, constantValue := 0 }, { name := "AIOOBE_FORMATTER", type := (.object "java/util/function/BiFunction"), accessFlags := 25, slot := 1, constantValue := 0 }, { name := "IOOBE_FORMATTER", type := (.object "java/util/function/BiFunction"), accessFlags := 25, slot := 2, constantValue := 0 }]
  methods := #[k11m0]
  instanceTypes := #[]
  staticTypes := #[(.object "java/util/function/BiFunction"), (.object "java/util/function/BiFunction"), (.object "java/util/function/BiFunction")]
  resolved := Array.replicate 194 none
  statics := some 1 }

def pool12 : Array CpInfo := pool [(9, u "<init>"), (6, .class_ 18), (1, u "java/lang/Object"), (0, u "()V"), (1, .class_ 23), (1, u "jdk/internal/util/ArraysSupport"), (0, u "LOG2_ARRAY_LONG_INDEX_SCALE"), (0, u "I"), (2, u "U"), (0, u "Ljdk/internal/misc/Unsafe;"), (8, u "BIG_ENDIAN"), (0, u "Z"), (8, u "LOG2_BYTE_BIT_SIZE"), (4, u "LOG2_ARRAY_INT_INDEX_SCALE"), (54, u "JLA"), (0, u "Ljdk/internal/access/JavaLangAccess;"), (11, u "LOG2_ARRAY_BOOLEAN_INDEX_SCALE"), (9, u "LOG2_ARRAY_BYTE_INDEX_SCALE"), (5, u "LOG2_ARRAY_CHAR_INDEX_SCALE"), (5, u "LOG2_ARRAY_SHORT_INDEX_SCALE"), (18, u "LOG2_ARRAY_FLOAT_INDEX_SCALE"), (24, u "LOG2_ARRAY_DOUBLE_INDEX_SCALE"), (89, u "T_BOOLEAN"), (2, u "T_CHAR"), (1, u "T_FLOAT"), (1, u "T_DOUBLE"), (1, u "T_BYTE"), (1, u "T_SHORT"), (1, u "T_INT"), (1, u "T_LONG"), (1, u "SOFT_MAX_ARRAY_LENGTH")] 83

def k12m0 : Method := { name := "<init>", desc := "()V", sig := { parameters := [], returnType := none }, accessFlags := 2, code := none }
/-- jdk/internal/util/ArraysSupport -/
def k12 : Class := { plain "jdk/internal/util/ArraysSupport" (some 0) with
  accessFlags := 33
  interfaces := #[]
  cf := some (fileOf pool12 21 #[] #[{ accessFlags := 2, nameIndex := 9, descriptorIndex := 19, attributes := #[] }] 33 16 #[] #[{ accessFlags := 24, nameIndex := 28, descriptorIndex := 29, attributes := #[] }, { accessFlags := 26, nameIndex := 38, descriptorIndex := 39, attributes := #[] }, { accessFlags := 25, nameIndex := 121, descriptorIndex := 25, attributes := #[] }, { accessFlags := 25, nameIndex := 131, descriptorIndex := 25, attributes := #[] }, { accessFlags := 25, nameIndex := 137, descriptorIndex := 25, attributes := #[] }, { accessFlags := 25, nameIndex := 143, descriptorIndex := 25, attributes := #[] }, { accessFlags := 25, nameIndex := 53, descriptorIndex := 25, attributes := #[] }, { accessFlags := 25, nameIndex := 24, descriptorIndex := 25, attributes := #[] }, { accessFlags := 25, nameIndex := 162, descriptorIndex := 25, attributes := #[] }, { accessFlags := 25, nameIndex := 187, descriptorIndex := 25, attributes := #[] }, { accessFlags := 26, nameIndex := 48, descriptorIndex := 25, attributes := #[] }, { accessFlags := 25, nameIndex := 277, descriptorIndex := 25, attributes := #[] }, { accessFlags := 25, nameIndex := 280, descriptorIndex := 25, attributes := #[] }, { accessFlags := 25, nameIndex := 282, descriptorIndex := 25, attributes := #[] }, { accessFlags := 25, nameIndex := 284, descriptorIndex := 25, attributes := #[] }, { accessFlags := 25, nameIndex := 286, descriptorIndex := 25, attributes := #[] }, { accessFlags := 25, nameIndex := 288, descriptorIndex := 25, attributes := #[] }, { accessFlags := 25, nameIndex := 290, descriptorIndex := 25, attributes := #[] }, { accessFlags := 25, nameIndex := 292, descriptorIndex := 25, attributes := #[] }, { accessFlags := 26, nameIndex := 108, descriptorIndex := 109, attributes := #[] }, { accessFlags := 25, nameIndex := 294, descriptorIndex := 25, attributes := #[] }])
  fields := #[{ name := "U", type := (.object "jdk/internal/misc/Unsafe"), accessFlags := 24, slot := 0, constantValue := 0 }, { name := "BIG_ENDIAN", type := .boolean, accessFlags := 26, slot := 1, constantValue := 0 }, { name := "LOG2_ARRAY_BOOLEAN_INDEX_SCALE", type := .int, accessFlags := 25, slot := 2, constantValue := 0 }, { name := "LOG2_ARRAY_BYTE_INDEX_SCALE", type := .int, accessFlags := 25, slot := 3, constantValue := 0 }, { name := "LOG2_ARRAY_CHAR_INDEX_SCALE", type := .int, accessFlags := 25, slot := 4, constantValue := 0 }, { name := "LOG2_ARRAY_SHORT_INDEX_SCALE", type := .int, accessFlags := 25, slot := 5, constantValue := 0 }, { name := "LOG2_ARRAY_INT_INDEX_SCALE", type := .int, accessFlags := 25, slot := 6, constantValue := 0 }, { name := "LOG2_ARRAY_LONG_INDEX_SCALE", type := .int, accessFlags := 25, slot := 7, constantValue := 0 }, { name := "LOG2_ARRAY_FLOAT_INDEX_SCALE", type := .int, accessFlags := 25, slot := 8, constantValue := 0 }, { name := "LOG2_ARRAY_DOUBLE_INDEX_SCALE", type := .int, accessFlags := 25, slot := 9, constantValue := 0 }, { name := "LOG2_BYTE_BIT_SIZE", type := .int, accessFlags := 26, slot := 10, constantValue := 0 }, { name := "T_BOOLEAN", type := .int, accessFlags := 25, slot := 11, constantValue := 0 }, { name := "T_CHAR", type := .int, accessFlags := 25, slot := 12, constantValue := 0 }, { name := "T_FLOAT", type := .int, accessFlags := 25, slot := 13, constantValue := 0 }, { name := "T_DOUBLE", type := .int, accessFlags := 25, slot := 14, constantValue := 0 }, { name := "T_BYTE", type := .int, accessFlags := 25, slot := 15, constantValue := 0 }, { name := "T_SHORT", type := .int, accessFlags := 25, slot := 16, constantValue := 0 }, { name := "T_INT", type := .int, accessFlags := 25, slot := 17, constantValue := 0 }, { name := "T_LONG", type := .int, accessFlags := 25, slot := 18, constantValue := 0 }, { name := "JLA", type := (.object "jdk/internal/access/JavaLangAccess"), accessFlags := 26, slot := 19, constantValue := 0 }, { name := "SOFT_MAX_ARRAY_LENGTH", type := .int, accessFlags := 25, slot := 20, constantValue := 0 }]
  methods := #[k12m0]
  instanceTypes := #[]
  staticTypes := #[(.object "jdk/internal/misc/Unsafe"), .boolean, .int, .int, .int, .int, .int, .int, .int, .int, .int, .int, .int, .int, .int, .int, .int, .int, .int, (.object "jdk/internal/access/JavaLangAccess"), .int]
  resolved := Array.replicate 378 none
  statics := none }

def pool13 : Array CpInfo := pool [(1, u "java/lang/Cloneable"), (0, .class_ 1), (0, u "java/lang/Object"), (0, .class_ 3)] 3

/-- java/lang/Cloneable -/
def k13 : Class := { plain "java/lang/Cloneable" (some 0) with
  accessFlags := 1537
  interfaces := #[]
  cf := some (fileOf pool13 2 #[] #[] 1537 4 #[] #[])
  fields := #[]
  methods := #[]
  instanceTypes := #[]
  staticTypes := #[]
  resolved := Array.replicate 8 none
  statics := none }

/-- the primitive byte -/
def k14 : Class := { plain "byte" none with kind := .primitive 'B', accessFlags := 0x411 }
/-- [B -/
def k15 : Class := { plain "[B" (some 0) with kind := .array 14 .byte, interfaces := #[13, 3], accessFlags := 1041 }

/-- the primitive char -/
def k16 : Class := { plain "char" none with kind := .primitive 'C', accessFlags := 0x411 }
/-- [C -/
def k17 : Class := { plain "[C" (some 0) with kind := .array 16 .char, interfaces := #[13, 3], accessFlags := 1041 }

def heap : Heap := #[{ cls := 8, slots := #[.long 0, .int 1, .null, .int 0, .null, .int 0, .int 0], vm := .statics 8 },
  { cls := 11, slots := #[.null, .null, .null], vm := .statics 11 }]
def classes : Array Class := #[k0, k1, k2, k3, k4, k5, k6, k7, k8, k9, k10, k11, k12, k13, k14, k15, k16, k17]
def interned : List (Array UInt16 × Addr) := []
def slotsUsed : Nat := 10
def theMethod : MethodId := ⟨1, 2⟩
def args0 : Array Value := #[.int 5, .int 5, .long 5, .int 5, .int 5, .int 5]
def aboutOver (below : List Frame) : State where
  vm := { classes := classes, interned := interned.toArray }
  heap := heap
  slotsUsed := slotsUsed
  threads := #[{ frames := .invoking theMethod args0 :: below }]
def below0 : List Frame := [.native { method := ⟨0, 0⟩, args := #[] }]
def about1 : State := aboutOver below0
def p0 : Program := .bare "" "" ""
def e0 : Env := launch0.env 0 0 0
theorem w_frames : about1.frames = Frame.invoking theMethod args0 :: below0 := rfl
set_option maxRecDepth 65536 in
theorem w_args : argsFit about1.vm theMethod args0 = true := by decide +kernel
set_option maxRecDepth 65536 in
theorem w_heap : heapFits about1 = true := by decide +kernel
set_option maxRecDepth 65536 in
theorem w_runnable : about1.curStatus? = some .runnable := by decide +kernel
set_option maxRecDepth 65536 in
theorem w_alone : about1.alone = true := by decide +kernel
set_option maxRecDepth 65536 in
theorem w_named : about1.methodNamed? x = some theMethod := by decide +kernel
set_option maxRecDepth 65536 in
theorem w_hears : about1.hears theMethod below0 = true := by decide +kernel
set_option maxRecDepth 65536 in
theorem w_ripe : about1.ripe theMethod args0 below0 = true := by decide +kernel
theorem w_running : about1.status = .running := rfl
set_option maxRecDepth 65536 in
theorem w_room : about1.hasRoom e0.platform room_1 = true :=
  launch0.hasRoom_least _ room_1 (by decide +kernel) (by decide +kernel) (by decide +kernel) (by decide +kernel) (by decide +kernel) (by decide +kernel)
theorem allAtoms_all (ts : List Jvm.Cond) (a : Array Jvm.Value) (st : Jvm.State) : (allAtoms ts).before a st = ts.all (fun c => c.before a st) := by
  induction ts with
  | nil => rfl
  | cons c t ih =>
    show (Jvm.Cond.and c (allAtoms t)).before a st = _
    rw [Jvm.Cond.before_and, ih, List.all_cons]
def words1 : List Jvm.Cond := Jvm.Cond.code x code maxLocals ret :: tables_1
/-- a 'code' word, met by the world's own term for the bytes: nothing is compared byte by byte -/
theorem code_word {y : MethodName} {bytes : ByteArray} {mx : Nat} {rt : Option FieldType} {a : Array Value} {s : State} {m : MethodId} {meth : Method} {c : Code} (h1 : s.methodNamed? y = some m) (h2 : s.vm.method? m = some meth) (h3 : meth.code = some c) (h4 : c.code = bytes)
    (h5 : (c.maxLocals == mx && c.exceptionTable.isEmpty && decide (c.maxStack ≤ mostOperands) && decide (meth.sig.returnType = rt) && !meth.locks && decide (parseMethodDescriptor y.desc = some meth.sig)) = true) : (Jvm.Cond.code y bytes mx rt).before a s = true := by
  simp only [Bool.and_eq_true, beq_iff_eq, Bool.not_eq_true', decide_eq_true_eq] at h5
  obtain ⟨⟨⟨⟨⟨g1, g2⟩, g3⟩, g4⟩, g5⟩, g6⟩ := h5
  simp [Cond.before, Cond.holds, Cond.value, h1, h2, h3, h4, g1, g2, g3, g4, g5, g6]
def isCode : Jvm.Cond → Bool
  | .code _ _ _ _ => true
  | _ => false
theorem all_split {L : List Jvm.Cond} {P : Jvm.Cond → Bool} (h1 : L.all (fun c => isCode c || P c) = true) (h2 : ∀ c ∈ L.filter isCode, P c = true) : L.all P = true := by
  refine List.all_eq_true.mpr fun c hc => ?_
  have h := List.all_eq_true.mp h1 c hc
  rcases Bool.eq_false_or_eq_true (isCode c) with hi | hi
  · exact h2 c (List.mem_filter.mpr ⟨hc, hi⟩)
  · simpa [hi] using h
set_option maxRecDepth 65536 in
theorem w_c0 : (Jvm.Cond.code x code maxLocals ret).before args0 about1 = true := code_word (m := ⟨1, 2⟩) (meth := k1m2) (c := k1c2) (by decide +kernel) rfl rfl rfl (by decide +kernel)
set_option maxRecDepth 65536 in
theorem w_c1 : (Jvm.Cond.code ({ cls := "com/example/cascadilla/cascadilla/language/TypeIsClassPinLaw", name := "drawn", desc := "(JI)C" } : Jvm.MethodName) method_2_code (3 : Nat) (Option.some Jvm.ClassFile.FieldType.char)).before args0 about1 = true := code_word (m := ⟨1, 1⟩) (meth := k1m1) (c := k1c1) (by decide +kernel) rfl rfl rfl (by decide +kernel)
set_option maxRecDepth 65536 in
theorem w_c2 : (Jvm.Cond.code ({ cls := "java/lang/String", name := "<init>", desc := "([C)V" } : Jvm.MethodName) jdk_42_method_3_code (2 : Nat) (Option.none : Option Jvm.ClassFile.FieldType)).before args0 about1 = true := code_word (m := ⟨8, 1⟩) (meth := k8m1) (c := k8c1) (by decide +kernel) rfl rfl rfl (by decide +kernel)
set_option maxRecDepth 65536 in
theorem w_c3 : (Jvm.Cond.code ({ cls := "java/lang/String", name := "<init>", desc := "([CIILjava/lang/Void;)V" } : Jvm.MethodName) jdk_42_method_149_code (6 : Nat) (Option.none : Option Jvm.ClassFile.FieldType)).before args0 about1 = true := code_word (m := ⟨8, 3⟩) (meth := k8m3) (c := k8c3) (by decide +kernel) rfl rfl rfl (by decide +kernel)
set_option maxRecDepth 65536 in
theorem w_c4 : (Jvm.Cond.code ({ cls := "java/lang/Object", name := "<init>", desc := "()V" } : Jvm.MethodName) object_method_1_code (1 : Nat) (Option.none : Option Jvm.ClassFile.FieldType)).before args0 about1 = true := code_word (m := ⟨0, 0⟩) (meth := k0m0) (c := k0c0) (by decide +kernel) rfl rfl rfl (by decide +kernel)
set_option maxRecDepth 65536 in
theorem w_c5 : (Jvm.Cond.code ({ cls := "java/lang/StringUTF16", name := "compress", desc := "([CII)[B" } : Jvm.MethodName) jdk_52_method_16_code (6 : Nat) (Option.some (Jvm.ClassFile.FieldType.array Jvm.ClassFile.FieldType.byte))).before args0 about1 = true := code_word (m := ⟨9, 2⟩) (meth := k9m2) (c := k9c2) (by decide +kernel) rfl rfl rfl (by decide +kernel)
set_option maxRecDepth 65536 in
theorem w_c6 : (Jvm.Cond.code ({ cls := "java/lang/StringUTF16", name := "compress", desc := "([CI[BII)I" } : Jvm.MethodName) jdk_52_method_21_code (7 : Nat) (Option.some Jvm.ClassFile.FieldType.int)).before args0 about1 = true := code_word (m := ⟨9, 3⟩) (meth := k9m3) (c := k9c3) (by decide +kernel) rfl rfl rfl (by decide +kernel)
set_option maxRecDepth 65536 in
theorem w_c7 : (Jvm.Cond.code ({ cls := "java/lang/StringUTF16", name := "coderFromArrayLen", desc := "([BI)B" } : Jvm.MethodName) jdk_52_method_15_code (2 : Nat) (Option.some Jvm.ClassFile.FieldType.byte)).before args0 about1 = true := code_word (m := ⟨9, 1⟩) (meth := k9m1) (c := k9c1) (by decide +kernel) rfl rfl rfl (by decide +kernel)
set_option maxRecDepth 65536 in
theorem w_c8 : (Jvm.Cond.code ({ cls := "com/example/cascadilla/cascadilla/language/Type", name := "<init>", desc := "(Ljava/lang/String;Lcom/example/cascadilla/cascadilla/language/Label;I)V" } : Jvm.MethodName) prog_55_method_1_code (4 : Nat) (Option.none : Option Jvm.ClassFile.FieldType)).before args0 about1 = true := code_word (m := ⟨2, 0⟩) (meth := k2m0) (c := k2c0) (by decide +kernel) rfl rfl rfl (by decide +kernel)
set_option maxRecDepth 65536 in
theorem w_c9 : (Jvm.Cond.code ({ cls := "com/example/cascadilla/cascadilla/language/Type", name := "isClass", desc := "()Z" } : Jvm.MethodName) prog_55_method_5_code (1 : Nat) (Option.some Jvm.ClassFile.FieldType.boolean)).before args0 about1 = true := code_word (m := ⟨2, 1⟩) (meth := k2m1) (c := k2c1) (by decide +kernel) rfl rfl rfl (by decide +kernel)
set_option maxRecDepth 65536 in
theorem w_c10 : (Jvm.Cond.code ({ cls := "java/lang/String", name := "equals", desc := "(Ljava/lang/Object;)Z" } : Jvm.MethodName) jdk_42_method_66_code (3 : Nat) (Option.some Jvm.ClassFile.FieldType.boolean)).before args0 about1 = true := code_word (m := ⟨8, 2⟩) (meth := k8m2) (c := k8c2) (by decide +kernel) rfl rfl rfl (by decide +kernel)
set_option maxRecDepth 65536 in
theorem w_c11 : (Jvm.Cond.code ({ cls := "java/lang/StringLatin1", name := "equals", desc := "([B[B)Z" } : Jvm.MethodName) jdk_43_method_13_code (3 : Nat) (Option.some Jvm.ClassFile.FieldType.boolean)).before args0 about1 = true := code_word (m := ⟨10, 1⟩) (meth := k10m1) (c := k10c1) (by decide +kernel) rfl rfl rfl (by decide +kernel)
def codes1 : List Jvm.Cond := [Jvm.Cond.code x code maxLocals ret, Jvm.Cond.code ({ cls := "com/example/cascadilla/cascadilla/language/TypeIsClassPinLaw", name := "drawn", desc := "(JI)C" } : Jvm.MethodName) method_2_code (3 : Nat) (Option.some Jvm.ClassFile.FieldType.char), Jvm.Cond.code ({ cls := "java/lang/String", name := "<init>", desc := "([C)V" } : Jvm.MethodName) jdk_42_method_3_code (2 : Nat) (Option.none : Option Jvm.ClassFile.FieldType), Jvm.Cond.code ({ cls := "java/lang/String", name := "<init>", desc := "([CIILjava/lang/Void;)V" } : Jvm.MethodName) jdk_42_method_149_code (6 : Nat) (Option.none : Option Jvm.ClassFile.FieldType), Jvm.Cond.code ({ cls := "java/lang/Object", name := "<init>", desc := "()V" } : Jvm.MethodName) object_method_1_code (1 : Nat) (Option.none : Option Jvm.ClassFile.FieldType), Jvm.Cond.code ({ cls := "java/lang/StringUTF16", name := "compress", desc := "([CII)[B" } : Jvm.MethodName) jdk_52_method_16_code (6 : Nat) (Option.some (Jvm.ClassFile.FieldType.array Jvm.ClassFile.FieldType.byte)), Jvm.Cond.code ({ cls := "java/lang/StringUTF16", name := "compress", desc := "([CI[BII)I" } : Jvm.MethodName) jdk_52_method_21_code (7 : Nat) (Option.some Jvm.ClassFile.FieldType.int), Jvm.Cond.code ({ cls := "java/lang/StringUTF16", name := "coderFromArrayLen", desc := "([BI)B" } : Jvm.MethodName) jdk_52_method_15_code (2 : Nat) (Option.some Jvm.ClassFile.FieldType.byte), Jvm.Cond.code ({ cls := "com/example/cascadilla/cascadilla/language/Type", name := "<init>", desc := "(Ljava/lang/String;Lcom/example/cascadilla/cascadilla/language/Label;I)V" } : Jvm.MethodName) prog_55_method_1_code (4 : Nat) (Option.none : Option Jvm.ClassFile.FieldType), Jvm.Cond.code ({ cls := "com/example/cascadilla/cascadilla/language/Type", name := "isClass", desc := "()Z" } : Jvm.MethodName) prog_55_method_5_code (1 : Nat) (Option.some Jvm.ClassFile.FieldType.boolean), Jvm.Cond.code ({ cls := "java/lang/String", name := "equals", desc := "(Ljava/lang/Object;)Z" } : Jvm.MethodName) jdk_42_method_66_code (3 : Nat) (Option.some Jvm.ClassFile.FieldType.boolean), Jvm.Cond.code ({ cls := "java/lang/StringLatin1", name := "equals", desc := "([B[B)Z" } : Jvm.MethodName) jdk_43_method_13_code (3 : Nat) (Option.some Jvm.ClassFile.FieldType.boolean)]
set_option maxRecDepth 65536 in
theorem codes_eq : words1.filter isCode = codes1 := rfl
theorem w_codes : ∀ c ∈ words1.filter isCode, c.before args0 about1 = true := by
  rw [codes_eq]
  intro c hc
  simp only [codes1, List.mem_cons, List.not_mem_nil, or_false] at hc
  rcases hc with rfl | rfl | rfl | rfl | rfl | rfl | rfl | rfl | rfl | rfl | rfl | rfl
  · exact w_c0
  · exact w_c1
  · exact w_c2
  · exact w_c3
  · exact w_c4
  · exact w_c5
  · exact w_c6
  · exact w_c7
  · exact w_c8
  · exact w_c9
  · exact w_c10
  · exact w_c11
set_option maxRecDepth 65536 in
theorem w_t1 : (words1.take 24).all (fun c => isCode c || c.before args0 about1) = true := by decide +kernel
set_option maxRecDepth 65536 in
theorem w_t2 : ((words1.drop 24).take 24).all (fun c => isCode c || c.before args0 about1) = true := by decide +kernel
set_option maxRecDepth 65536 in
theorem w_t3 : ((words1.drop 24).drop 24).all (fun c => isCode c || c.before args0 about1) = true := by decide +kernel
theorem w_tables : (allAtoms (Jvm.Cond.code x code maxLocals ret :: tables_1)).before args0 about1 = true := by
  rw [allAtoms_all]
  show words1.all (fun c => c.before args0 about1) = true
  refine all_split ?_ w_codes
  rw [← List.take_append_drop 24 words1, List.all_append, w_t1, ← List.take_append_drop 24 (words1.drop 24), List.all_append, w_t2, w_t3]
  rfl
set_option maxRecDepth 65536 in
theorem w_rest : rest_1_c.before args0 about1 = true := by decide +kernel
set_option maxRecDepth 65536 in
theorem w_case : (Jvm.Cond.and given_1 narrow_1).before args0 about1 = true := by decide +kernel
set_option maxRecDepth 65536 in
theorem w_consts : constsHeld consts_1 about1 := Jvm.Lit.constsHeldB_iff.mp (by decide +kernel)
theorem w_applies : (headSpec (Jvm.Cond.code x code maxLocals ret :: tables_1) room_1).applies x e0.platform about1 = true :=
  (Spec.applies_iff w_frames).mpr ⟨w_running, w_runnable, w_alone, w_named, w_hears, w_ripe, w_room, w_tables⟩
theorem atStart : AtStart classFile x code maxLocals ret World_1 tables_1 room_1 Calls_1 rest_1 Pre_1 launch0 p0 e0 about1 theMethod args0 below0 :=
  ⟨lists_1, trivial, launch0.admits_env _ _ _, launch0.least_env, fairChoices_fair.cas, fairChoices_fair.clock, w_frames, w_args, w_heap, w_applies, ⟨w_consts, trivial⟩, w_rest, w_case⟩
end start1
theorem witness_1 : WitnessClaimed_1 := ⟨start1.p0, start1.e0, start1.about1, start1.theMethod, start1.args0, start1.below0, start1.atStart⟩
end Jvm.Pilot.@@N@@
