import JvmDerived
import JvmDerived.Pilot.@@N@@Statement
import JvmDerived.Pilot.@@N@@Code
set_option linter.unusedVariables false
set_option linter.unusedSimpArgs false
/- laws to paste: Road.backV, Road.eqW, Road.codOf (cut by pick.py; bodies as the Statement names them) -/
namespace Jvm.Pilot.@@N@@
namespace StrChars
open Jvm Sem ClassFile Op Lib Jvm.Stand Jvm.Free.XT Jvm.Free.ALB Jvm.Free.JM Jvm.Free
open Jvm.Lib.Cold (StaticIs)
/-- a char array whose places are chars -/
def Ch (a : Addr) (A : Cell) (U : State) : Prop := Arr .char a A U ∧ Typed .char A
theorem Ch.mv {a : Addr} {A : Cell} {U U' : State} (h : Ch a A U) (hal : U.vm.Alike U'.vm) (hh : U'.heap = U.heap) : Ch a A U' := ⟨h.1.mv hal hh, h.2⟩
theorem Ch.keep {a : Addr} {A : Cell} {U U' : State} (h : Ch a A U) (hal : U.vm.Alike U'.vm) (hk : U'.heap[a]? = some A) : Ch a A U' := ⟨h.1.keep hal hk, h.2⟩
/-- what place i of a char[]'s cell holds -/
def cv (A : Cell) (i : Nat) : Int32 := match A.slots[i]? with | some (.int x) => x | _ => 0
theorem Ch.get {a : Addr} {A : Cell} {U : State} (h : Ch a A U) {i : Nat} (hi : i < A.slots.size) : A.slots[i]? = some (.int (cv A i)) := by
  have e := Array.getElem?_eq_getElem hi
  have f := h.2 i _ e
  unfold cv; rw [e]
  generalize A.slots[i] = v at f
  cases v <;> simp [fits] at f ⊢
/-- the byte that i2b leaves of a char -/
def lo8 (x : Int32) : Int32 := x.toInt8.toInt32
theorem fits_lo8 (y : Int32) : fits .byte (.int (lo8 y)) = true := by
  have h1 := y.toInt8.le_toInt
  have h2 := y.toInt8.toInt_lt
  simp only [lo8, fits, Bool.and_eq_true, decide_eq_true_eq, Int32.le_iff_toInt_le, Int8.toInt_toInt32, show (-128 : Int32).toInt = -128 from by decide, show (127 : Int32).toInt = 127 from by decide]
  omega
/-- A' is A but that each place j of lo .. hi - 1 holds f j -/
def Laid (A A' : Cell) (lo hi : Nat) (f : Nat → Value) : Prop := A'.cls = A.cls ∧ A'.vm = A.vm ∧ A'.slots.size = A.slots.size ∧ ∀ i, A'.slots[i]? = if lo ≤ i ∧ i < hi then some (f i) else A.slots[i]?
theorem Laid.zero (A : Cell) (lo : Nat) (f : Nat → Value) : Laid A A lo (lo + 0) f := ⟨rfl, rfl, rfl, fun i => by rw [if_neg (by omega)]⟩
theorem Laid.step {A Ak : Cell} {lo k : Nat} {f : Nat → Value} {v : Value} (h : Laid A Ak lo k f) (hlo : lo ≤ k) (hk : k < Ak.slots.size) (hv : v = f k) : Laid A (Ak.setSlot k v) lo (k + 1) f := by
  refine ⟨h.1, h.2.1, by simpa [Cell.setSlot] using h.2.2.1, fun i => ?_⟩
  by_cases e : k = i
  · subst e; rw [Cell.slots_setSlot_self v hk, if_pos (by omega), hv]
  · rw [Cell.slots_setSlot_ne v e, h.2.2.2 i]
    by_cases q : lo ≤ i ∧ i < k
    · rw [if_pos q, if_pos (by omega)]
    · rw [if_neg q, if_neg (by omega)]
def U16 : String := "java/lang/StringUTF16"
namespace Cmp5
def yN : MethodName := ⟨"java/lang/StringUTF16", "compress", "([CI[BII)I"⟩
abbrev yB : ByteArray := jdk_52_method_21_code
theorem d0 : decode yB 0 = .ok (.iconst 0, 1) := by decide +kernel
theorem d1 : decode yB 1 = .ok (.istore 5, 2) := by decide +kernel
theorem d3 : decode yB 3 = .ok (.iload 5, 2) := by decide +kernel
theorem d5 : decode yB 5 = .ok (.iload 4, 2) := by decide +kernel
theorem d7 : decode yB 7 = .ok (.if_icmp (.ge) 37, 3) := by decide +kernel
theorem d10 : decode yB 10 = .ok (.aload_n 0, 1) := by decide +kernel
theorem d11 : decode yB 11 = .ok (.iload_n 1, 1) := by decide +kernel
theorem d12 : decode yB 12 = .ok (.caload, 1) := by decide +kernel
theorem d13 : decode yB 13 = .ok (.istore 6, 2) := by decide +kernel
theorem d15 : decode yB 15 = .ok (.iload 6, 2) := by decide +kernel
theorem d17 : decode yB 17 = .ok (.sipush 255, 3) := by decide +kernel
theorem d20 : decode yB 20 = .ok (.if_icmp (.le) 6, 3) := by decide +kernel
theorem d26 : decode yB 26 = .ok (.aload_n 2, 1) := by decide +kernel
theorem d27 : decode yB 27 = .ok (.iload_n 3, 1) := by decide +kernel
theorem d28 : decode yB 28 = .ok (.iload 6, 2) := by decide +kernel
theorem d30 : decode yB 30 = .ok (.i2b, 1) := by decide +kernel
theorem d31 : decode yB 31 = .ok (.bastore, 1) := by decide +kernel
theorem d32 : decode yB 32 = .ok (.iinc 1 1, 3) := by decide +kernel
theorem d35 : decode yB 35 = .ok (.iinc 3 1, 3) := by decide +kernel
theorem d38 : decode yB 38 = .ok (.iinc 5 1, 3) := by decide +kernel
theorem d41 : decode yB 41 = .ok (.goto (-38), 3) := by decide +kernel
theorem d44 : decode yB 44 = .ok (.iload 4, 2) := by decide +kernel
theorem d46 : decode yB 46 = .ok (.ireturn, 1) := by decide +kernel
def site : List Cond := []
def tab : Cond := tabOf yN yB 7 (some .int) site
def P (b : Addr) (A : Cell) (d : Addr) (B : Cell) (o q len : Nat) (args : Array Value) (s : State) : Prop := args = #[.ref b, .int (Int32.ofNat o), .ref d, .int (Int32.ofNat q), .int (Int32.ofNat len)] ∧ Ch b A s ∧ Arr .byte d B s ∧ b ≠ d ∧ o + len ≤ A.slots.size ∧ q + len ≤ B.slots.size ∧ ∀ i, i < len → ¬ 255 < cv A (o + i)
def E (b : Addr) (A : Cell) (d : Addr) (B : Cell) (o q len : Nat) (r : Option Value) (s u : State) : Prop := r = some (.int (Int32.ofNat len)) ∧ ∃ B', Put d B' s u ∧ Laid B B' q (q + len) (fun j => Value.int (lo8 (cv A (o + (j - q)))))
/-- no char of the range above 255: len; the places written hold each char's low byte -/
theorem law (l : Launch) (b : Addr) (A : Cell) (d : Addr) (B : Cell) (o q len : Nat) : Law l yN 5 5 0 0 yB 7 (some .int) site (P b A d B o q len) (E b A d B o q len) (copyLocs d q len) 0 0 := by
  refine Law.of_walk (plainFor_of_name (by decide +kernel)) (by decide +kernel) (by decide +kernel) (by decide) (fun _ _ h => by rw [h.1]; rfl) (fun _ U U' hal hh h => ⟨h.1, h.2.1.mv hal hh, h.2.2.1.mv hal hh, h.2.2.2⟩) (fun r U U' V V' h1 hal h2 h => ⟨h.1, h.2.elim fun B' q => ⟨B', q.1.mv h1 h2, q.2⟩⟩) ?_
  intro p e s m args below meth c s₁ X0 hexec hbytes hml hret hlk hnm hown hh0 W hP
  obtain ⟨rfl, hA, hB, hne, l1, l2, hp⟩ := hP
  have c1 : Steps p.tables e below (s₁.setTop (entryFrame m #[.ref b, .int (Int32.ofNat o), .ref d, .int (Int32.ofNat q), .int (Int32.ofNat len)] 7)) (s₁.setTop (mkF m 0 #[.val (.ref b), .val (.int (Int32.ofNat o)), .val (.ref d), .val (.int (Int32.ofNat q)), .val (.int (Int32.ofNat len)), .unset, .unset] [])) := entry rfl
  have hA0 := hA.1.mv X0.warmed.alike hh0
  have hB0 := hB.mv X0.warmed.alike hh0
  have a31 := hA.1.2.2.2
  have c2 : Steps p.tables e below (s₁.setTop (entryFrame m #[.ref b, .int (Int32.ofNat o), .ref d, .int (Int32.ofNat q), .int (Int32.ofNat len)] 7)) (s₁.setTop (mkF m 3 #[.val (.ref b), .val (.int (Int32.ofNat o)), .val (.ref d), .val (.int (Int32.ofNat q)), .val (.int (Int32.ofNat len)), .val (.int 0), .unset] [])) := c1.trans (by
    refine iconstV X0.here hexec rfl 0 (hb hbytes d0) (by decide) ?_
    refine XS.istore X0.here hexec rfl (hb hbytes d1) rfl rfl ?_
    exact Steps.refl _)
  have loop : ∀ (r i : Nat), i + r = len → ∀ (z : Slot), (z = .unset ∨ ∃ w, z = .val w ∧ w.category = 1) → ∀ (Tl : State) (Bk : Cell), Stand p l e { frames := 0, locals := 0, cells := 0, slots := 0 } s m #[.ref b, .int (Int32.ofNat o), .ref d, .int (Int32.ofNat q), .int (Int32.ofNat len)] below meth c Tl ([] ++ copyLocs d q i) 0 0 → Put d Bk s₁ Tl → Laid B Bk q (q + i) (fun j => Value.int (lo8 (cv A (o + (j - q))))) →
      Steps p.tables e below (s₁.setTop (entryFrame m #[.ref b, .int (Int32.ofNat o), .ref d, .int (Int32.ofNat q), .int (Int32.ofNat len)] 7)) (Tl.setTop (mkF m 3 #[.val (.ref b), .val (.int (Int32.ofNat (o + i))), .val (.ref d), .val (.int (Int32.ofNat (q + i))), .val (.int (Int32.ofNat len)), .val (.int (Int32.ofNat i)), z] [])) → ∃ (T' : State) (B' : Cell) (z' : Slot), Stand p l e { frames := 0, locals := 0, cells := 0, slots := 0 } s m #[.ref b, .int (Int32.ofNat o), .ref d, .int (Int32.ofNat q), .int (Int32.ofNat len)] below meth c T' ([] ++ copyLocs d q len) 0 0 ∧ Put d B' s₁ T' ∧ Laid B B' q (q + len) (fun j => Value.int (lo8 (cv A (o + (j - q))))) ∧
      Steps p.tables e below (s₁.setTop (entryFrame m #[.ref b, .int (Int32.ofNat o), .ref d, .int (Int32.ofNat q), .int (Int32.ofNat len)] 7)) (T'.setTop (mkF m 3 #[.val (.ref b), .val (.int (Int32.ofNat (o + len))), .val (.ref d), .val (.int (Int32.ofNat (q + len))), .val (.int (Int32.ofNat len)), .val (.int (Int32.ofNat len)), z'] [])) := by
    intro r
    induction r with
    | zero =>
      intro i hi z hz Tl Bk Xl pl fl cl
      have hil : i = len := by omega
      rw [hil] at Xl fl cl
      exact ⟨Tl, Bk, z, Xl, pl, fl, cl⟩
    | succ r ih =>
      intro i hi z hz Tl Bk Xl pl fl cl
      have all := X0.warmed.alike.symm.trans Xl.warmed.alike
      have hAl := hA0.keep all (pl.other hne hA0.1)
      have hBk := hB0.like all pl.1 fl.1 fl.2.1 fl.2.2.1
      have hlt : q + i < Bk.slots.size := by rw [fl.2.2.1]; omega
      have c3 : Steps p.tables e below (s₁.setTop (entryFrame m #[.ref b, .int (Int32.ofNat o), .ref d, .int (Int32.ofNat q), .int (Int32.ofNat len)] 7)) (Tl.setTop (mkF m 12 #[.val (.ref b), .val (.int (Int32.ofNat (o + i))), .val (.ref d), .val (.int (Int32.ofNat (q + i))), .val (.int (Int32.ofNat len)), .val (.int (Int32.ofNat i)), z] [.int (Int32.ofNat (o + i)), .ref b])) := cl.trans (by
        refine XS.iload Xl.here hexec rfl (hb hbytes d3) rfl ?_
        refine XS.iload Xl.here hexec rfl (hb hbytes d5) rfl ?_
        refine XS.icmpNo Xl.here hexec rfl (hb hbytes d7) rfl (ii_ge_f (lt32 (by omega) (by omega))) ?_
        refine XS.aloadN Xl.here hexec rfl (hb hbytes d10) rfl rfl ?_
        refine XS.iloadN Xl.here hexec rfl (hb hbytes d11) rfl ?_
        exact Steps.refl _)
      have c4 : Steps p.tables e below (s₁.setTop (entryFrame m #[.ref b, .int (Int32.ofNat o), .ref d, .int (Int32.ofNat q), .int (Int32.ofNat len)] 7)) (Tl.setTop (mkF m 13 #[.val (.ref b), .val (.int (Int32.ofNat (o + i))), .val (.ref d), .val (.int (Int32.ofNat (q + i))), .val (.int (Int32.ofNat len)), .val (.int (Int32.ofNat i)), z] [.int (cv A (o + i))])) := c3.trans (by
        refine Xl.aget hexec hAl rfl (hA.get (i := o + i) (by omega)) rfl rfl (hb hbytes d12) ?_
        exact Steps.refl _)
      have c5 : Steps p.tables e below (s₁.setTop (entryFrame m #[.ref b, .int (Int32.ofNat o), .ref d, .int (Int32.ofNat q), .int (Int32.ofNat len)] 7)) (Tl.setTop (mkF m 15 #[.val (.ref b), .val (.int (Int32.ofNat (o + i))), .val (.ref d), .val (.int (Int32.ofNat (q + i))), .val (.int (Int32.ofNat len)), .val (.int (Int32.ofNat i)), .val (.int (cv A (o + i)))] [])) := c4.trans (by
        refine XS.istoreS Xl.here hexec rfl (hb hbytes d13) rfl rfl hz ?_
        exact Steps.refl _)
      have c6 : Steps p.tables e below (s₁.setTop (entryFrame m #[.ref b, .int (Int32.ofNat o), .ref d, .int (Int32.ofNat q), .int (Int32.ofNat len)] 7)) (Tl.setTop (mkF m 31 #[.val (.ref b), .val (.int (Int32.ofNat (o + i))), .val (.ref d), .val (.int (Int32.ofNat (q + i))), .val (.int (Int32.ofNat len)), .val (.int (Int32.ofNat i)), .val (.int (cv A (o + i)))] [.int (lo8 (cv A (o + i))), .int (Int32.ofNat (q + i)), .ref d])) := c5.trans (by
        refine XS.iload Xl.here hexec rfl (hb hbytes d15) rfl ?_
        refine sipushV Xl.here hexec rfl 255 (hb hbytes d17) (by decide) ?_
        refine XS.icmpYes Xl.here hexec rfl (pc0 := 20) rfl (hb hbytes d20) rfl (ii_le_t (hp i (by omega))) (by decide) rfl ?_
        refine XS.aloadN Xl.here hexec rfl (hb hbytes d26) rfl rfl ?_
        refine XS.iloadN Xl.here hexec rfl (hb hbytes d27) rfl ?_
        refine XS.iload Xl.here hexec rfl (hb hbytes d28) rfl ?_
        refine i2b Xl.here hexec rfl (hb hbytes d30) rfl ?_
        exact Steps.refl _)
      obtain ⟨T7, X7, p7, st7⟩ := Xl.aput hexec hBk rfl hlt rfl (fits_lo8 (cv A (o + i))) (g := (mkF m 31 #[.val (.ref b), .val (.int (Int32.ofNat (o + i))), .val (.ref d), .val (.int (Int32.ofNat (q + i))), .val (.int (Int32.ofNat len)), .val (.int (Int32.ofNat i)), .val (.int (cv A (o + i)))] [.int (lo8 (cv A (o + i))), .int (Int32.ofNat (q + i)), .ref d])) rfl (rest := []) rfl (hb hbytes d31)
      have c8 : Steps p.tables e below (s₁.setTop (entryFrame m #[.ref b, .int (Int32.ofNat o), .ref d, .int (Int32.ofNat q), .int (Int32.ofNat len)] 7)) (T7.setTop (mkF m 32 #[.val (.ref b), .val (.int (Int32.ofNat (o + i))), .val (.ref d), .val (.int (Int32.ofNat (q + i))), .val (.int (Int32.ofNat len)), .val (.int (Int32.ofNat i)), .val (.int (cv A (o + i)))] [])) := c6.trans (st7 _ (Steps.refl _))
      have c9 : Steps p.tables e below (s₁.setTop (entryFrame m #[.ref b, .int (Int32.ofNat o), .ref d, .int (Int32.ofNat q), .int (Int32.ofNat len)] 7)) (T7.setTop (mkF m 3 #[.val (.ref b), .val (.int (Int32.ofNat (o + i) + 1)), .val (.ref d), .val (.int (Int32.ofNat (q + i) + 1)), .val (.int (Int32.ofNat len)), .val (.int (Int32.ofNat i + 1)), .val (.int (cv A (o + i)))] [])) := c8.trans (by
        refine iincV X7.here hexec rfl 1 (hb hbytes d32) (by decide) rfl rfl ?_
        refine iincV X7.here hexec rfl 1 (hb hbytes d35) (by decide) rfl rfl ?_
        refine iincV X7.here hexec rfl 1 (hb hbytes d38) (by decide) rfl rfl ?_
        refine XS.goto X7.here hexec rfl (pc0 := 41) rfl (hb hbytes d41) (by decide) rfl ?_
        exact Steps.refl _)
      have c10 : Steps p.tables e below (s₁.setTop (entryFrame m #[.ref b, .int (Int32.ofNat o), .ref d, .int (Int32.ofNat q), .int (Int32.ofNat len)] 7)) (T7.setTop (mkF m 3 #[.val (.ref b), .val (.int (Int32.ofNat (o + (i + 1)))), .val (.ref d), .val (.int (Int32.ofNat (q + (i + 1)))), .val (.int (Int32.ofNat len)), .val (.int (Int32.ofNat (i + 1))), .val (.int (cv A (o + i)))] [])) := by
        have := c9
        rw [succ32, succ32, succ32] at this
        exact this
      exact ih (i + 1) (by omega) _ (Or.inr ⟨_, rfl, rfl⟩) T7 _ (by rw [copyLocs_step, ← List.append_assoc]; exact X7) (pl.trans p7) (fl.step (by omega) hlt (by simp)) c10
  obtain ⟨T9, B9, z9, X9, p9, f9, g9⟩ := loop len 0 (by omega) .unset (Or.inl rfl) s₁ B (by simpa [copyLocs] using X0) ⟨hB0.1, fun _ _ => rfl, rfl⟩ (Laid.zero _ _ _) c2
  have c11 : Steps p.tables e below (s₁.setTop (entryFrame m #[.ref b, .int (Int32.ofNat o), .ref d, .int (Int32.ofNat q), .int (Int32.ofNat len)] 7)) (T9.setTop (mkF m 46 #[.val (.ref b), .val (.int (Int32.ofNat (o + len))), .val (.ref d), .val (.int (Int32.ofNat (q + len))), .val (.int (Int32.ofNat len)), .val (.int (Int32.ofNat len)), z9] [.int (Int32.ofNat len)])) := g9.trans (by
    refine XS.iload X9.here hexec rfl (hb hbytes d3) rfl ?_
    refine XS.iload X9.here hexec rfl (hb hbytes d5) rfl ?_
    refine XS.icmpYes X9.here hexec rfl (pc0 := 7) rfl (hb hbytes d7) rfl (ii_ge_t (nlt32 (by omega) (Nat.le_refl _))) (by decide) rfl ?_
    refine XS.iload X9.here hexec rfl (hb hbytes d44) rfl ?_
    exact Steps.refl _)
  exact ⟨T9, some (.int (Int32.ofNat len)), _, _, _, X9, by simp, rfl, rfl, (fun h => by cases h), ⟨rfl, B9, p9.from hh0, f9⟩, fun fs hl => c11.trans (X9.ireturnOut hexec hret rfl (Or.inl rfl) (hb hbytes d46) hl)⟩
end Cmp5
namespace Cmp3
def yN : MethodName := ⟨"java/lang/StringUTF16", "compress", "([CII)[B"⟩
abbrev yB : ByteArray := jdk_52_method_16_code
theorem d0 : decode yB 0 = .ok (.iload_n 2, 1) := by decide +kernel
theorem d1 : decode yB 1 = .ok (.newarray .byte, 2) := by decide +kernel
theorem d3 : decode yB 3 = .ok (.astore_n 3, 1) := by decide +kernel
theorem d4 : decode yB 4 = .ok (.aload_n 0, 1) := by decide +kernel
theorem d5 : decode yB 5 = .ok (.iload_n 1, 1) := by decide +kernel
theorem d6 : decode yB 6 = .ok (.aload_n 3, 1) := by decide +kernel
theorem d7 : decode yB 7 = .ok (.iconst 0, 1) := by decide +kernel
theorem d8 : decode yB 8 = .ok (.iload_n 2, 1) := by decide +kernel
theorem d9 : decode yB 9 = .ok (.invokestatic 115, 3) := by decide +kernel
theorem d12 : decode yB 12 = .ok (.istore 4, 2) := by decide +kernel
theorem d14 : decode yB 14 = .ok (.iload 4, 2) := by decide +kernel
theorem d16 : decode yB 16 = .ok (.iload_n 2, 1) := by decide +kernel
theorem d17 : decode yB 17 = .ok (.if_icmp (.eq) 40, 3) := by decide +kernel
theorem d57 : decode yB 57 = .ok (.aload_n 3, 1) := by decide +kernel
theorem d58 : decode yB 58 = .ok (.areturn, 1) := by decide +kernel
def site : List Cond := [.arrayClass .byte, Cmp5.tab] ++ staticW U16 115 Cmp5.yN
def tab : Cond := tabOf yN yB 6 (some (.array .byte)) site
def P (b : Addr) (A : Cell) (o len : Nat) (args : Array Value) (s : State) : Prop := args = #[.ref b, .int (Int32.ofNat o), .int (Int32.ofNat len)] ∧ Ch b A s ∧ o + len ≤ A.slots.size ∧ len ≤ 536870912 ∧ ∀ i, i < len → ¬ 255 < cv A (o + i)
def E (b : Addr) (A : Cell) (o len : Nat) (r : Option Value) (s u : State) : Prop := NewArr .byte "[B" len (fun j => .int (lo8 (cv A (o + j)))) r s u ∧ u.heap.size = s.heap.size + 1
/-- no char of the range above 255: a new byte[] of their low bytes -/
theorem law (l : Launch) (b : Addr) (A : Cell) (o len : Nat) : Law l yN 3 3 1 18 yB 6 (some (.array .byte)) site (P b A o len) (E b A o len) [] 1 len := by
  refine Law.of_walk (plainFor_of_name (by decide +kernel)) (by decide +kernel) (by decide +kernel) (by decide) (fun _ _ h => by rw [h.1]; rfl) (fun _ U U' hal hh h => ⟨h.1, h.2.1.mv hal hh, h.2.2⟩) (fun r U U' V V' h1 hal h2 h => ⟨NewArr.mv r U U' V V' h1 hal h2 h.1, by rw [h1, h2]; exact h.2⟩) ?_
  intro p e s m args below meth c s₁ X0 hexec hbytes hml hret hlk hnm hown hh0 W hP
  obtain ⟨rfl, hA, l1, l2, hp⟩ := hP
  have a31 := hA.1.2.2.2
  have c1 : Steps p.tables e below (s₁.setTop (entryFrame m #[.ref b, .int (Int32.ofNat o), .int (Int32.ofNat len)] 6)) (s₁.setTop (mkF m 0 #[.val (.ref b), .val (.int (Int32.ofNat o)), .val (.int (Int32.ofNat len)), .unset, .unset, .unset] [])) := entry rfl
  have c2 : Steps p.tables e below (s₁.setTop (entryFrame m #[.ref b, .int (Int32.ofNat o), .int (Int32.ofNat len)] 6)) (s₁.setTop (mkF m 1 #[.val (.ref b), .val (.int (Int32.ofNat o)), .val (.int (Int32.ofNat len)), .unset, .unset, .unset] [.int (Int32.ofNat len)])) := c1.trans (by
    refine XS.iloadN X0.here hexec rfl (hb hbytes d0) rfl ?_
    exact Steps.refl _)
  obtain ⟨T3, B3, X3, ba3, bs3, bv3, bh3, bf3, st3⟩ := X0.anew hexec (atype := .byte) (wk W (.arrayClass .byte)) rfl (by show len * 1 ≤ _; omega) (by omega) (g := (mkF m 1 #[.val (.ref b), .val (.int (Int32.ofNat o)), .val (.int (Int32.ofNat len)), .unset, .unset, .unset] [.int (Int32.ofNat len)])) rfl (hb hbytes d1) (rest := []) rfl (Nat.le_refl _) (by show 0 + len ≤ len; omega)
  rw [hh0] at ba3 st3
  have kp3 : XT.Kept s T3 := (XT.Kept.of_eq hh0).push bh3
  have hA3 := hA.keep X3.warmed.alike (kp3 _ _ hA.1.1)
  have hne : b ≠ s.heap.size := hA.1.ne
  have c4 : Steps p.tables e below (s₁.setTop (entryFrame m #[.ref b, .int (Int32.ofNat o), .int (Int32.ofNat len)] 6)) (T3.setTop (mkF m 3 #[.val (.ref b), .val (.int (Int32.ofNat o)), .val (.int (Int32.ofNat len)), .unset, .unset, .unset] [.ref s.heap.size])) := c2.trans (st3 _ (Steps.refl _))
  have c5 : Steps p.tables e below (s₁.setTop (entryFrame m #[.ref b, .int (Int32.ofNat o), .int (Int32.ofNat len)] 6)) (T3.setTop (mkF m 9 #[.val (.ref b), .val (.int (Int32.ofNat o)), .val (.int (Int32.ofNat len)), .val (.ref s.heap.size), .unset, .unset] [.int (Int32.ofNat len), .int 0, .ref s.heap.size, .int (Int32.ofNat o), .ref b])) := c4.trans (by
    refine XS.astoreN X3.here hexec rfl (hb hbytes d3) rfl rfl rfl ?_
    refine XS.aloadN X3.here hexec rfl (hb hbytes d4) rfl rfl ?_
    refine XS.iloadN X3.here hexec rfl (hb hbytes d5) rfl ?_
    refine XS.aloadN X3.here hexec rfl (hb hbytes d6) rfl rfl ?_
    refine iconstV X3.here hexec rfl 0 (hb hbytes d7) (by decide) ?_
    refine XS.iloadN X3.here hexec rfl (hb hbytes d8) rfl ?_
    exact Steps.refl _)
  obtain ⟨v6, T6, X6, E6, g6⟩ := X3.callS hexec (Cmp5.law l b A s.heap.size B3 o 0 len) hown (wks W (staticW U16 115 Cmp5.yN)) (wk W Cmp5.tab) (W := 0) (Nat.le_of_ble_eq_true rfl) (Nat.le_of_ble_eq_true rfl) (Nat.le_refl _) (by show 0 + len + 0 ≤ len; omega) (g := (mkF m 9 #[.val (.ref b), .val (.int (Int32.ofNat o)), .val (.int (Int32.ofNat len)), .val (.ref s.heap.size), .unset, .unset] [.int (Int32.ofNat len), .int (Int32.ofNat 0), .ref s.heap.size, .int (Int32.ofNat o), .ref b])) rfl (by rw [hml]; rfl) c5 (argsL := [.ref b, .int (Int32.ofNat o), .ref s.heap.size, .int (Int32.ofNat 0), .int (Int32.ofNat len)]) (rest := []) rfl rfl (by show 2 * 0 + 0 ≤ _; decide) (hb hbytes d9) (⟨rfl, hA3, ba3, hne, l1, by rw [bs3]; simp, hp⟩)
  obtain ⟨rfl, B6, p6, f6⟩ := E6
  have c7 : Steps p.tables e below (s₁.setTop (entryFrame m #[.ref b, .int (Int32.ofNat o), .int (Int32.ofNat len)] 6)) (T6.setTop (mkF m 12 #[.val (.ref b), .val (.int (Int32.ofNat o)), .val (.int (Int32.ofNat len)), .val (.ref s.heap.size), .unset, .unset] [.int (Int32.ofNat len)])) := g6
  have c8 : Steps p.tables e below (s₁.setTop (entryFrame m #[.ref b, .int (Int32.ofNat o), .int (Int32.ofNat len)] 6)) (T6.setTop (mkF m 58 #[.val (.ref b), .val (.int (Int32.ofNat o)), .val (.int (Int32.ofNat len)), .val (.ref s.heap.size), .val (.int (Int32.ofNat len)), .unset] [.ref s.heap.size])) := c7.trans (by
    refine XS.istore X6.here hexec rfl (hb hbytes d12) rfl rfl ?_
    refine XS.iload X6.here hexec rfl (hb hbytes d14) rfl ?_
    refine XS.iloadN X6.here hexec rfl (hb hbytes d16) rfl ?_
    refine XS.icmpYes X6.here hexec rfl (pc0 := 17) rfl (hb hbytes d17) rfl (ii_eq_t rfl) (by decide) rfl ?_
    refine XS.aloadN X6.here hexec rfl (hb hbytes d57) rfl rfl ?_
    exact Steps.refl _)
  have X8 := X6.wide (L' := []) (cells' := 1) (slots' := len) (fun x hx hlt => by
    simp only [List.nil_append, copyLocs, List.mem_map, List.mem_range] at hx
    obtain ⟨i, -, rfl⟩ := hx
    exact absurd hlt (Nat.lt_irrefl _)) (Nat.le_refl _) (by omega)
  exact ⟨T6, some (.ref s.heap.size), _, _, _, X8, rfl, rfl, rfl, (fun h => by cases h), ⟨⟨rfl, B6, ba3.like (X3.warmed.alike.symm.trans X6.warmed.alike) p6.1 f6.1 f6.2.1 f6.2.2.1, f6.2.1.trans bv3, by rw [X6.warmed.alike.findClass, f6.1]; exact bf3, by rw [f6.2.2.1, bs3]; simp, fun j hj => by rw [f6.2.2.2 j, if_pos (by omega)]; rfl, kp3.put p6 (Nat.le_refl _)⟩, by rw [p6.2.2, bh3, hh0]; simp⟩, fun fs hl => c8.trans (X8.areturnOut hexec rfl hret rfl (hb hbytes d58) hl)⟩
end Cmp3
namespace CodL
def yN : MethodName := ⟨"java/lang/StringUTF16", "coderFromArrayLen", "([BI)B"⟩
abbrev yB : ByteArray := jdk_52_method_15_code
theorem d0 : decode yB 0 = .ok (.iload_n 1, 1) := by decide +kernel
theorem d1 : decode yB 1 = .ok (.aload_n 0, 1) := by decide +kernel
theorem d2 : decode yB 2 = .ok (.arraylength, 1) := by decide +kernel
theorem d3 : decode yB 3 = .ok (.isub, 1) := by decide +kernel
theorem d4 : decode yB 4 = .ok (.bipush 31, 2) := by decide +kernel
theorem d6 : decode yB 6 = .ok (.iushr, 1) := by decide +kernel
theorem d7 : decode yB 7 = .ok (.i2b, 1) := by decide +kernel
theorem d8 : decode yB 8 = .ok (.ireturn, 1) := by decide +kernel
def site : List Cond := []
def tab : Cond := tabOf yN yB 2 (some .byte) site
def P (d : Addr) (B : Cell) (args : Array Value) (s : State) : Prop := args = #[.ref d, .int (Int32.ofNat B.slots.size)] ∧ Arr .byte d B s
def E (r : Option Value) (s u : State) : Prop := XT.PureE (some (.int 0)) r s u
/-- an array as long as the number of chars: LATIN1 -/
theorem law (l : Launch) (d : Addr) (B : Cell) : Law l yN 2 2 0 0 yB 2 (some .byte) site (P d B) E [] 0 0 := by
  refine Law.of_walk (plainFor_of_name (by decide +kernel)) (by decide +kernel) (by decide +kernel) (by decide) (fun _ _ h => by rw [h.1]; rfl) (fun _ U U' hal hh h => ⟨h.1, h.2.mv hal hh⟩) (fun r U U' V V' h1 hal h2 h => XT.PureE.mv r U U' V V' h1 hal h2 h) ?_
  intro p e s m args below meth c s₁ X0 hexec hbytes hml hret hlk hnm hown hh0 W hP
  obtain ⟨rfl, hB⟩ := hP
  have hB0 := hB.mv X0.warmed.alike hh0
  have c1 : Steps p.tables e below (s₁.setTop (entryFrame m #[.ref d, .int (Int32.ofNat B.slots.size)] 2)) (s₁.setTop (mkF m 0 #[.val (.ref d), .val (.int (Int32.ofNat B.slots.size))] [])) := entry rfl
  have c2 : Steps p.tables e below (s₁.setTop (entryFrame m #[.ref d, .int (Int32.ofNat B.slots.size)] 2)) (s₁.setTop (mkF m 2 #[.val (.ref d), .val (.int (Int32.ofNat B.slots.size))] [.ref d, .int (Int32.ofNat B.slots.size)])) := c1.trans (by
    refine XS.iloadN X0.here hexec rfl (hb hbytes d0) rfl ?_
    refine XS.aloadN X0.here hexec rfl (hb hbytes d1) rfl rfl ?_
    exact Steps.refl _)
  have c3 : Steps p.tables e below (s₁.setTop (entryFrame m #[.ref d, .int (Int32.ofNat B.slots.size)] 2)) (s₁.setTop (mkF m 8 #[.val (.ref d), .val (.int (Int32.ofNat B.slots.size))] [.int (lo8 (ushr (Int32.ofNat B.slots.size - Int32.ofNat B.slots.size) 31))])) := c2.trans (by
    refine X0.alen hexec hB0 rfl rfl (hb hbytes d2) ?_
    refine XS.isub X0.here hexec rfl (hb hbytes d3) rfl ?_
    refine bipushV X0.here hexec rfl 31 (hb hbytes d4) (by decide) ?_
    refine iushr X0.here hexec rfl (hb hbytes d6) rfl ?_
    refine i2b X0.here hexec rfl (hb hbytes d7) rfl ?_
    exact Steps.refl _)
  have e0 : lo8 (ushr (Int32.ofNat B.slots.size - Int32.ofNat B.slots.size) 31) = 0 := by rw [Int32.sub_self]; decide
  rw [e0] at c3
  exact ⟨s₁, some (.int 0), _, _, _, X0, rfl, rfl, rfl, (fun h => by cases h), ⟨rfl, hh0⟩, fun fs hl => c3.trans (X0.ireturnOut hexec hret rfl (Or.inr (Or.inr (Or.inl rfl))) (hb hbytes d8) hl)⟩
end CodL
/-- the String at a is Latin-1 over a new byte[] (the heap's one new cell): the low bytes of the len chars of A from o on; every cell but a is kept -/
def Got (a : Addr) (D : Cell) (fV fC : Field) (A : Cell) (o len : Nat) (r : Option Value) (s u : State) : Prop := r = none ∧ ∃ D' V : Cell, Blank "java/lang/String" a D' u ∧ Same D D' [fV.slot, fC.slot] ∧ D'.slots[fV.slot]? = some (.ref s.heap.size) ∧ D'.slots[fC.slot]? = some (.int 0) ∧ Arr .byte s.heap.size V u ∧ V.vm = .none ∧ u.vm.findClass "[B" = some V.cls ∧ V.slots.size = len ∧ (∀ j, j < len → V.slots[j]? = some (.int (lo8 (cv A (o + j))))) ∧ (∀ (y : Addr) (c : Cell), y ≠ a → s.heap[y]? = some c → u.heap[y]? = some c) ∧ u.heap.size = s.heap.size + 1
theorem Got.mv {a : Addr} {D A : Cell} {fV fC : Field} {o len : Nat} : ∀ r (U U' V V' : State), U'.heap = U.heap → V.vm.Alike V'.vm → V'.heap = V.heap → Got a D fV fC A o len r U V → Got a D fV fC A o len r U' V' :=
  fun r U U' V V' h1 hal h2 ⟨e0, D', X, a1, a2, a3, a4, a5, a6, a7, a8, a9, a10, a11⟩ => ⟨e0, D', X, a1.mv hal h2, a2, by rw [h1]; exact a3, a4, by rw [h1]; exact a5.mv hal h2, a6, by rw [hal.findClass]; exact a7, a8, a9, by rw [h1, h2]; exact a10, by rw [h1, h2]; exact a11⟩
namespace New4
def yN : MethodName := ⟨"java/lang/String", "<init>", "([CIILjava/lang/Void;)V"⟩
abbrev yB : ByteArray := jdk_42_method_149_code
theorem d0 : decode yB 0 = .ok (.aload_n 0, 1) := by decide +kernel
theorem d1 : decode yB 1 = .ok (.invokespecial 1, 3) := by decide +kernel
theorem d4 : decode yB 4 = .ok (.iload_n 3, 1) := by decide +kernel
theorem d5 : decode yB 5 = .ok (.ifCond (.ne) 22, 3) := by decide +kernel
theorem d27 : decode yB 27 = .ok (.getstatic 38, 3) := by decide +kernel
theorem d30 : decode yB 30 = .ok (.ifCond (.eq) 28, 3) := by decide +kernel
theorem d33 : decode yB 33 = .ok (.aload_n 1, 1) := by decide +kernel
theorem d34 : decode yB 34 = .ok (.iload_n 2, 1) := by decide +kernel
theorem d35 : decode yB 35 = .ok (.iload_n 3, 1) := by decide +kernel
theorem d36 : decode yB 36 = .ok (.invokestatic 177, 3) := by decide +kernel
theorem d39 : decode yB 39 = .ok (.astore 5, 2) := by decide +kernel
theorem d41 : decode yB 41 = .ok (.aload_n 0, 1) := by decide +kernel
theorem d42 : decode yB 42 = .ok (.aload 5, 2) := by decide +kernel
theorem d44 : decode yB 44 = .ok (.iload_n 3, 1) := by decide +kernel
theorem d45 : decode yB 45 = .ok (.invokestatic 47, 3) := by decide +kernel
theorem d48 : decode yB 48 = .ok (.putfield 15, 3) := by decide +kernel
theorem d51 : decode yB 51 = .ok (.aload_n 0, 1) := by decide +kernel
theorem d52 : decode yB 52 = .ok (.aload 5, 2) := by decide +kernel
theorem d54 : decode yB 54 = .ok (.putfield 9, 3) := by decide +kernel
theorem d57 : decode yB 57 = .ok (.return_, 1) := by decide +kernel
def site : List Cond := [.fieldLink "java/lang/String" 38 "java/lang/String" "COMPACT_STRINGS" "Z", Cmp3.tab, CodL.tab, .laysFinal "java/lang/String" "java/lang/String" "value" "[B", .fieldLink "java/lang/String" 9 "java/lang/String" "value" "[B", .laysFinal "java/lang/String" "java/lang/String" "coder" "B", .fieldLink "java/lang/String" 15 "java/lang/String" "coder" "B"] ++ objW "java/lang/String" 1 ++ staticW "java/lang/String" 177 Cmp3.yN ++ staticW "java/lang/String" 47 CodL.yN
def tab : Cond := tabOf yN yB 6 none site
def P (a : Addr) (D : Cell) (fV fC : Field) (b : Addr) (A : Cell) (z : Int32) (o len : Nat) (args : Array Value) (s : State) : Prop := args = #[.ref a, .ref b, .int (Int32.ofNat o), .int (Int32.ofNat len), .null] ∧ Blank "java/lang/String" a D s ∧ Found "java/lang/String" "value" "[B" fV s ∧ Found "java/lang/String" "coder" "B" fC s ∧ Ch b A s ∧ StaticIs s "java/lang/String" "COMPACT_STRINGS" "Z" (.int z) ∧ ¬ z = 0 ∧ 0 < len ∧ o + len ≤ A.slots.size ∧ len ≤ 536870912 ∧ ∀ i, i < len → ¬ 255 < cv A (o + i)
def E (a : Addr) (D : Cell) (fV fC : Field) (A : Cell) (o len : Nat) (r : Option Value) (s u : State) : Prop := Got a D fV fC A o len r s u
/-- len > 0, no char of the range above 255: a Latin-1 String of their low bytes -/
theorem law (l : Launch) (a : Addr) (D : Cell) (fV fC : Field) (b : Addr) (A : Cell) (z : Int32) (o len : Nat) : Law l yN 5 4 2 35 yB 6 none site (P a D fV fC b A z o len) (E a D fV fC A o len) [⟨a, fC.slot⟩, ⟨a, fV.slot⟩] 1 len := by
  refine Law.of_walk (plainFor_of_name (by decide +kernel)) (by decide +kernel) (by decide +kernel) (by decide) (fun _ _ h => by rw [h.1]; rfl) (fun _ U U' hal hh h => ⟨h.1, h.2.1.mv hal hh, h.2.2.1.al hal, h.2.2.2.1.al hal, h.2.2.2.2.1.mv hal hh, h.2.2.2.2.2.1.there hal hh, h.2.2.2.2.2.2⟩) (fun r U U' V V' h1 hal h2 h => Got.mv r U U' V V' h1 hal h2 h) ?_
  intro p e s m args below meth c s₁ X0 hexec hbytes hml hret hlk hnm hown hh0 W hP
  obtain ⟨rfl, hB, f1, f2, hA, s1, hz, l0, l1, l2, hp⟩ := hP
  have a31 := hA.1.2.2.2
  have c1 : Steps p.tables e below (s₁.setTop (entryFrame m #[.ref a, .ref b, .int (Int32.ofNat o), .int (Int32.ofNat len), .null] 6)) (s₁.setTop (mkF m 0 #[.val (.ref a), .val (.ref b), .val (.int (Int32.ofNat o)), .val (.int (Int32.ofNat len)), .val .null, .unset] [])) := entry rfl
  have c2 : Steps p.tables e below (s₁.setTop (entryFrame m #[.ref a, .ref b, .int (Int32.ofNat o), .int (Int32.ofNat len), .null] 6)) (s₁.setTop (mkF m 1 #[.val (.ref a), .val (.ref b), .val (.int (Int32.ofNat o)), .val (.int (Int32.ofNat len)), .val .null, .unset] [.ref a])) := c1.trans (by
    refine XS.aloadN X0.here hexec rfl (hb hbytes d0) rfl rfl ?_
    exact Steps.refl _)
  obtain ⟨T3, X3, q3, st3⟩ := X0.oinit hexec hown (wks W (objW "java/lang/String" 1)) (g := (mkF m 1 #[.val (.ref a), .val (.ref b), .val (.int (Int32.ofNat o)), .val (.int (Int32.ofNat len)), .val .null, .unset] [.ref a])) rfl (by rw [hml]; rfl) (rest := []) rfl (hb hbytes d1) (W := 0) (by show 2 * 0 + 0 ≤ _; decide) (Nat.le_of_ble_eq_true rfl) (Nat.le_of_ble_eq_true rfl)
  have hh3 := q3.trans hh0
  have c4 : Steps p.tables e below (s₁.setTop (entryFrame m #[.ref a, .ref b, .int (Int32.ofNat o), .int (Int32.ofNat len), .null] 6)) (T3.setTop (mkF m 27 #[.val (.ref a), .val (.ref b), .val (.int (Int32.ofNat o)), .val (.int (Int32.ofNat len)), .val .null, .unset] [])) := (c2.trans (st3 _ (Steps.refl _))).trans (by
    refine XS.iloadN X3.here hexec rfl (hb hbytes d4) rfl ?_
    refine XS.ifYes X3.here hexec rfl (pc0 := 5) rfl (hb hbytes d5) rfl (i0_ne_t (nz32 (by omega) l0)) (by decide) rfl ?_
    exact Steps.refl _)
  obtain ⟨T5, X5, q5, st5⟩ := X3.sget hexec hown (wk W (.fieldLink "java/lang/String" 38 "java/lang/String" "COMPACT_STRINGS" "Z")) s1 (fun _ _ h => by rw [hh3]; exact h) (g := (mkF m 27 #[.val (.ref a), .val (.ref b), .val (.int (Int32.ofNat o)), .val (.int (Int32.ofNat len)), .val .null, .unset] [])) rfl (hb hbytes d27)
  have hh5 := q5.trans hh3
  have c6 : Steps p.tables e below (s₁.setTop (entryFrame m #[.ref a, .ref b, .int (Int32.ofNat o), .int (Int32.ofNat len), .null] 6)) (T5.setTop (mkF m 30 #[.val (.ref a), .val (.ref b), .val (.int (Int32.ofNat o)), .val (.int (Int32.ofNat len)), .val .null, .unset] [.int z])) := c4.trans (st5 _ (Steps.refl _))
  have c7 : Steps p.tables e below (s₁.setTop (entryFrame m #[.ref a, .ref b, .int (Int32.ofNat o), .int (Int32.ofNat len), .null] 6)) (T5.setTop (mkF m 36 #[.val (.ref a), .val (.ref b), .val (.int (Int32.ofNat o)), .val (.int (Int32.ofNat len)), .val .null, .unset] [.int (Int32.ofNat len), .int (Int32.ofNat o), .ref b])) := c6.trans (by
    refine XS.ifNo X5.here hexec rfl (hb hbytes d30) rfl (i0_eq_f hz) ?_
    refine XS.aloadN X5.here hexec rfl (hb hbytes d33) rfl rfl ?_
    refine XS.iloadN X5.here hexec rfl (hb hbytes d34) rfl ?_
    refine XS.iloadN X5.here hexec rfl (hb hbytes d35) rfl ?_
    exact Steps.refl _)
  obtain ⟨v8, T8, X8, E8, g8⟩ := X5.callS hexec (Cmp3.law l b A o len) hown (wks W (staticW "java/lang/String" 177 Cmp3.yN)) (wk W Cmp3.tab) (W := 0) (Nat.le_of_ble_eq_true rfl) (Nat.le_of_ble_eq_true rfl) (Nat.le_refl _) (by show 0 + len ≤ len; omega) (g := (mkF m 36 #[.val (.ref a), .val (.ref b), .val (.int (Int32.ofNat o)), .val (.int (Int32.ofNat len)), .val .null, .unset] [.int (Int32.ofNat len), .int (Int32.ofNat o), .ref b])) rfl (by rw [hml]; rfl) c7 (argsL := [.ref b, .int (Int32.ofNat o), .int (Int32.ofNat len)]) (rest := []) rfl rfl (by show 2 * 0 + 0 ≤ _; decide) (hb hbytes d36) (⟨rfl, hA.mv X5.warmed.alike hh5, l1, l2, hp⟩)
  obtain ⟨e8, z8⟩ := E8
  obtain ⟨rfl, N, n1, n2, n3, n4, n5, n6⟩ := NewArr.mv _ T5 s _ _ hh5.symm (Vm.Alike.refl _) rfl e8
  rw [hh5] at z8
  have hB1 := hB.keep X8.warmed.alike (n6 _ _ hB.1)
  have hne : s.heap.size ≠ a := (Nat.ne_of_lt (Array.getElem?_eq_some_iff.mp hB.1).1).symm
  have c9 : Steps p.tables e below (s₁.setTop (entryFrame m #[.ref a, .ref b, .int (Int32.ofNat o), .int (Int32.ofNat len), .null] 6)) (T8.setTop (mkF m 39 #[.val (.ref a), .val (.ref b), .val (.int (Int32.ofNat o)), .val (.int (Int32.ofNat len)), .val .null, .unset] [.ref s.heap.size])) := g8
  have c10 : Steps p.tables e below (s₁.setTop (entryFrame m #[.ref a, .ref b, .int (Int32.ofNat o), .int (Int32.ofNat len), .null] 6)) (T8.setTop (mkF m 45 #[.val (.ref a), .val (.ref b), .val (.int (Int32.ofNat o)), .val (.int (Int32.ofNat len)), .val .null, .val (.ref s.heap.size)] [.int (Int32.ofNat N.slots.size), .ref s.heap.size, .ref a])) := by
    have hc : Steps p.tables e below (s₁.setTop (entryFrame m #[.ref a, .ref b, .int (Int32.ofNat o), .int (Int32.ofNat len), .null] 6)) (T8.setTop (mkF m 45 #[.val (.ref a), .val (.ref b), .val (.int (Int32.ofNat o)), .val (.int (Int32.ofNat len)), .val .null, .val (.ref s.heap.size)] [.int (Int32.ofNat len), .ref s.heap.size, .ref a])) := c9.trans (by
      refine XS.astore X8.here hexec rfl (hb hbytes d39) rfl rfl rfl ?_
      refine XS.aloadN X8.here hexec rfl (hb hbytes d41) rfl rfl ?_
      refine XS.aload X8.here hexec rfl (hb hbytes d42) rfl rfl ?_
      refine XS.iloadN X8.here hexec rfl (hb hbytes d44) rfl ?_
      exact Steps.refl _)
    rw [n4]; exact hc
  obtain ⟨v11, T11, X11, E11, g11⟩ := X8.callS hexec (CodL.law l s.heap.size N) hown (wks W (staticW "java/lang/String" 47 CodL.yN)) (wk W CodL.tab) (W := 1) (Nat.le_of_ble_eq_true rfl) (Nat.le_of_ble_eq_true rfl) (Nat.le_refl _) (by show 0 + len + 0 ≤ len; omega) (g := (mkF m 45 #[.val (.ref a), .val (.ref b), .val (.int (Int32.ofNat o)), .val (.int (Int32.ofNat len)), .val .null, .val (.ref s.heap.size)] [.int (Int32.ofNat N.slots.size), .ref s.heap.size, .ref a])) rfl (by rw [hml]; rfl) c10 (argsL := [.ref s.heap.size, .int (Int32.ofNat N.slots.size)]) (rest := [.ref a]) rfl rfl (by show 2 * 0 + (1 + 0) ≤ _; decide) (hb hbytes d45) (⟨rfl, n1⟩)
  obtain ⟨rfl, q11⟩ := E11
  have hB11 := hB1.mv (X8.warmed.alike.symm.trans X11.warmed.alike) q11
  have c12 : Steps p.tables e below (s₁.setTop (entryFrame m #[.ref a, .ref b, .int (Int32.ofNat o), .int (Int32.ofNat len), .null] 6)) (T11.setTop (mkF m 48 #[.val (.ref a), .val (.ref b), .val (.int (Int32.ofNat o)), .val (.int (Int32.ofNat len)), .val .null, .val (.ref s.heap.size)] [.int 0, .ref a])) := g11
  obtain ⟨T13, X13, p13, bl13, sl13, st13⟩ := X11.finit hexec hown (wk W (.fieldLink "java/lang/String" 15 "java/lang/String" "coder" "B")) (Or.inr ⟨_, (wk W (.laysFinal "java/lang/String" "java/lang/String" "coder" "B"))⟩) (Or.inl ⟨rfl, hnm⟩) f2 (Or.inl rfl) hB11 (t := .byte) (by decide +kernel) rfl (g := (mkF m 48 #[.val (.ref a), .val (.ref b), .val (.int (Int32.ofNat o)), .val (.int (Int32.ofNat len)), .val .null, .val (.ref s.heap.size)] [.int 0, .ref a])) rfl (rest := []) rfl (hb hbytes d48)
  have c14 : Steps p.tables e below (s₁.setTop (entryFrame m #[.ref a, .ref b, .int (Int32.ofNat o), .int (Int32.ofNat len), .null] 6)) (T13.setTop (mkF m 54 #[.val (.ref a), .val (.ref b), .val (.int (Int32.ofNat o)), .val (.int (Int32.ofNat len)), .val .null, .val (.ref s.heap.size)] [.ref s.heap.size, .ref a])) := (c12.trans (st13 _ (Steps.refl _))).trans (by
    refine XS.aloadN X13.here hexec rfl (hb hbytes d51) rfl rfl ?_
    refine XS.aload X13.here hexec rfl (hb hbytes d52) rfl rfl ?_
    exact Steps.refl _)
  obtain ⟨T15, X15, p15, bl15, sl15, st15⟩ := X13.finit hexec hown (wk W (.fieldLink "java/lang/String" 9 "java/lang/String" "value" "[B")) (Or.inr ⟨_, (wk W (.laysFinal "java/lang/String" "java/lang/String" "value" "[B"))⟩) (Or.inl ⟨rfl, hnm⟩) f1 (Or.inl rfl) bl13 (t := (.array .byte)) (by decide +kernel) rfl (g := (mkF m 54 #[.val (.ref a), .val (.ref b), .val (.int (Int32.ofNat o)), .val (.int (Int32.ofNat len)), .val .null, .val (.ref s.heap.size)] [.ref s.heap.size, .ref a])) rfl (rest := []) rfl (hb hbytes d54)
  have c16 : Steps p.tables e below (s₁.setTop (entryFrame m #[.ref a, .ref b, .int (Int32.ofNat o), .int (Int32.ofNat len), .null] 6)) (T15.setTop (mkF m 57 #[.val (.ref a), .val (.ref b), .val (.int (Int32.ofNat o)), .val (.int (Int32.ofNat len)), .val .null, .val (.ref s.heap.size)] [])) := c14.trans (st15 _ (Steps.refl _))
  have ap := apart (Or.inr ⟨_, (wk W (.laysFinal "java/lang/String" "java/lang/String" "value" "[B"))⟩) (Or.inr ⟨_, (wk W (.laysFinal "java/lang/String" "java/lang/String" "coder" "B"))⟩) f1 f2 (t₁ := .array .byte) (t₂ := .byte) (by decide +kernel) (by decide +kernel) (by decide)
  have al := X8.warmed.alike.symm.trans X15.warmed.alike
  have n7 : T11.heap[s.heap.size]? = some N := by rw [q11]; exact n1.1
  exact ⟨T15, none, _, _, _, X15, by simp, rfl, by omega, (fun _ => rfl), ⟨rfl, _, N, bl15, ((Same.refl D _).set _ (by simp)).set _ (by simp), sl15, (Cell.slots_setSlot_ne _ ap).trans sl13, n1.keep al (p15.other hne (p13.other hne n7)), n2, by rw [al.findClass]; exact n3, n4, n5, fun y c h1 h2 => p15.other h1 (p13.other h1 (by rw [q11]; exact n6 y c h2)), by rw [p15.2.2, p13.2.2, q11]; exact z8⟩, fun fs hl => c16.trans (X15.returnOut hexec hret (hb hbytes d57) hl)⟩
end New4
namespace New1
def yN : MethodName := ⟨"java/lang/String", "<init>", "([C)V"⟩
abbrev yB : ByteArray := jdk_42_method_3_code
theorem d0 : decode yB 0 = .ok (.aload_n 0, 1) := by decide +kernel
theorem d1 : decode yB 1 = .ok (.aload_n 1, 1) := by decide +kernel
theorem d2 : decode yB 2 = .ok (.iconst 0, 1) := by decide +kernel
theorem d3 : decode yB 3 = .ok (.aload_n 1, 1) := by decide +kernel
theorem d4 : decode yB 4 = .ok (.arraylength, 1) := by decide +kernel
theorem d5 : decode yB 5 = .ok (.aconst_null, 1) := by decide +kernel
theorem d6 : decode yB 6 = .ok (.invokespecial 27, 3) := by decide +kernel
theorem d9 : decode yB 9 = .ok (.return_, 1) := by decide +kernel
def site : List Cond := [New4.tab] ++ initW "java/lang/String" 27 New4.yN
def tab : Cond := tabOf yN yB 2 none site
def P (a : Addr) (D : Cell) (fV fC : Field) (b : Addr) (A : Cell) (z : Int32) (args : Array Value) (s : State) : Prop := args = #[.ref a, .ref b] ∧ Blank "java/lang/String" a D s ∧ Found "java/lang/String" "value" "[B" fV s ∧ Found "java/lang/String" "coder" "B" fC s ∧ Ch b A s ∧ StaticIs s "java/lang/String" "COMPACT_STRINGS" "Z" (.int z) ∧ ¬ z = 0 ∧ 0 < A.slots.size ∧ A.slots.size ≤ 536870912 ∧ ∀ i, i < A.slots.size → ¬ 255 < cv A i
def E (a : Addr) (D : Cell) (fV fC : Field) (A : Cell) (r : Option Value) (s u : State) : Prop := Got a D fV fC A 0 A.slots.size r s u
/-- new String(chars), not empty, no char above 255: a Latin-1 String of their low bytes -/
theorem law (l : Launch) (a : Addr) (D : Cell) (fV fC : Field) (b : Addr) (A : Cell) (z : Int32) : Law l yN 2 1 3 52 yB 2 none site (P a D fV fC b A z) (E a D fV fC A) [⟨a, fC.slot⟩, ⟨a, fV.slot⟩] 1 A.slots.size := by
  refine Law.of_walk (plainFor_of_name (by decide +kernel)) (by decide +kernel) (by decide +kernel) (by decide) (fun _ _ h => by rw [h.1]; rfl) (fun _ U U' hal hh h => ⟨h.1, h.2.1.mv hal hh, h.2.2.1.al hal, h.2.2.2.1.al hal, h.2.2.2.2.1.mv hal hh, h.2.2.2.2.2.1.there hal hh, h.2.2.2.2.2.2⟩) (fun r U U' V V' h1 hal h2 h => Got.mv r U U' V V' h1 hal h2 h) ?_
  intro p e s m args below meth c s₁ X0 hexec hbytes hml hret hlk hnm hown hh0 W hP
  obtain ⟨rfl, hB, f1, f2, hA, s1, hz, l0, l2, hp⟩ := hP
  have c1 : Steps p.tables e below (s₁.setTop (entryFrame m #[.ref a, .ref b] 2)) (s₁.setTop (mkF m 0 #[.val (.ref a), .val (.ref b)] [])) := entry rfl
  have c2 : Steps p.tables e below (s₁.setTop (entryFrame m #[.ref a, .ref b] 2)) (s₁.setTop (mkF m 6 #[.val (.ref a), .val (.ref b)] [.null, .int (Int32.ofNat A.slots.size), .int 0, .ref b, .ref a])) := c1.trans (by
    refine XS.aloadN X0.here hexec rfl (hb hbytes d0) rfl rfl ?_
    refine XS.aloadN X0.here hexec rfl (hb hbytes d1) rfl rfl ?_
    refine iconstV X0.here hexec rfl 0 (hb hbytes d2) (by decide) ?_
    refine XS.aloadN X0.here hexec rfl (hb hbytes d3) rfl rfl ?_
    refine X0.alen hexec (hA.1.mv X0.warmed.alike hh0) rfl rfl (hb hbytes d4) ?_
    refine XS.aconstNull X0.here hexec rfl (hb hbytes d5) ?_
    exact Steps.refl _)
  obtain ⟨v3, T3, X3, E3, g3⟩ := X0.callN hexec (New4.law l a D fV fC b A z 0 A.slots.size) rfl hown (wks W (initW "java/lang/String" 27 New4.yN)) (W New4.tab (by simp only [site, List.mem_cons, List.mem_append, true_or, or_true])) (W := 0) (Nat.le_of_ble_eq_true rfl) (Nat.le_of_ble_eq_true rfl) (Nat.le_refl _) (by show 0 + A.slots.size ≤ A.slots.size; omega) (g := (mkF m 6 #[.val (.ref a), .val (.ref b)] [.null, .int (Int32.ofNat A.slots.size), .int (Int32.ofNat 0), .ref b, .ref a])) rfl (by rw [hml]; rfl) c2 (argsL := [.ref b, .int (Int32.ofNat 0), .int (Int32.ofNat A.slots.size), .null]) (rest := []) rfl rfl (by show 2 * 0 + 0 ≤ _; decide) (hb hbytes d6) (⟨rfl, hB.mv X0.warmed.alike hh0, f1.al X0.warmed.alike, f2.al X0.warmed.alike, hA.mv X0.warmed.alike hh0, s1.there X0.warmed.alike hh0, hz, l0, by omega, l2, fun i hi => by rw [Nat.zero_add]; exact hp i hi⟩)
  have e0 := Got.mv _ s₁ s _ _ hh0.symm (Vm.Alike.refl _) rfl E3
  obtain rfl := e0.1
  have c4 : Steps p.tables e below (s₁.setTop (entryFrame m #[.ref a, .ref b] 2)) (T3.setTop (mkF m 9 #[.val (.ref a), .val (.ref b)] [])) := g3
  exact ⟨T3, none, _, _, _, X3, by simp, rfl, by omega, (fun _ => rfl), e0, fun fs hl => c4.trans (X3.returnOut hexec hret (hb hbytes d9) hl)⟩
theorem pays {l : Launch} {R : Room} {p : Program} {e : Env} {below : List Frame} {s : State} {sargs : Array Value} {len W : Nat} (a : Addr) (D : Cell) (fV fC : Field) (b : Addr) (A : Cell) (z : Int32) (htab : tab.before sargs s = true) (hfr : 4 ≤ R.frames) (hlo : W + 65 ≤ R.locals) :
    Back l R p e below s sargs yN len W (fun A₁ a₁ => A₁.cells + 1 ≤ R.cells ∧ A₁.slots + A.slots.size ≤ R.slots ∧ P a D fV fC b A z a₁ A₁.U) (fun A₁ _ v₁ B₁ => E a D fV fC A v₁ A₁.U B₁.U ∧ B₁.locs = A₁.locs ++ [⟨a, fC.slot⟩, ⟨a, fV.slot⟩] ∧ B₁.cells = A₁.cells + 1 ∧ B₁.slots = A₁.slots + A.slots.size) :=
  (law l a D fV fC b A z).pays htab hfr (by omega)
end New1
/-- the byte, read back as charAt reads it, is the char -/
theorem lo8_mask {x : Int32} (h0 : ¬ x < 0) (h1 : ¬ 255 < x) : lo8 x &&& 255 = x := by
  have t : ∀ k : Fin 256, lo8 (Int32.ofNat k.val) &&& 255 = Int32.ofNat k.val := by decide +kernel
  rw [Int32.lt_iff_toInt_lt] at h0 h1
  have e0 : (0 : Int32).toInt = 0 := rfl
  have e1 : (255 : Int32).toInt = 255 := rfl
  obtain ⟨k, hk⟩ : ∃ k : Nat, x.toInt = k := ⟨x.toInt.toNat, by omega⟩
  have hx : x = Int32.ofNat k := Int32.toInt_inj.mp (by rw [hk, Int32.toInt_ofNat_small (by omega)])
  rw [hx]
  exact t ⟨k, by omega⟩
end StrChars
namespace StrChars.Road
open Jvm Sem ClassFile Op Lib Jvm.Stand Jvm.Free Jvm.Free.XT
open Jvm.Lib.Cold (StaticIs)
abbrev ST : String := "java/lang/String"
/-- every table word that New1's law asks, flat -/
abbrev words : List Jvm.Cond := [.code New1.yN New1.yB 2 none, .initialized ST, .methodLink ST 27 New4.yN, .instanceMethod New4.yN,
  .code New4.yN New4.yB 6 none, .fieldLink ST 38 ST "COMPACT_STRINGS" "Z", .laysFinal ST ST "value" "[B", .fieldLink ST 9 ST "value" "[B", .laysFinal ST ST "coder" "B", .fieldLink ST 15 ST "coder" "B",
  .methodLink ST 1 Lib.objectInit, .instanceMethod Lib.objectInit, .code Lib.objectInit ⟨#[0xb1]⟩ 1 none, .methodLink ST 177 Cmp3.yN, .static Cmp3.yN, .methodLink ST 47 CodL.yN, .static CodL.yN,
  .code Cmp3.yN Cmp3.yB 6 (some (.array .byte)), .initialized U16, .arrayClass .byte, .methodLink U16 115 Cmp5.yN, .static Cmp5.yN, .code Cmp5.yN Cmp5.yB 7 (some .int), .code CodL.yN CodL.yB 2 (some .byte)]
theorem tab_of {a : Array Value} {s : State} (h : ∀ w ∈ words, w.before a s = true) : New1.tab.before a s = true := by
  have h5 : Cmp5.tab.before a s = true := unparts (wk h (.code Cmp5.yN Cmp5.yB 7 (some .int))) (wks h (.initialized Cmp5.yN.cls :: Cmp5.site))
  have hc : CodL.tab.before a s = true := unparts (wk h (.code CodL.yN CodL.yB 2 (some .byte))) (wks h (.initialized CodL.yN.cls :: CodL.site))
  have q5 : ∀ w ∈ Cmp5.tab :: words, w.before a s = true := fun w hw => (List.mem_cons.mp hw).elim (fun e => e ▸ h5) (h w)
  have h3 : Cmp3.tab.before a s = true := unparts (wk q5 (.code Cmp3.yN Cmp3.yB 6 (some (.array .byte)))) (wks q5 (.initialized Cmp3.yN.cls :: Cmp3.site))
  have q3 : ∀ w ∈ Cmp3.tab :: CodL.tab :: words, w.before a s = true := fun w hw => (List.mem_cons.mp hw).elim (fun e => e ▸ h3) fun hw => (List.mem_cons.mp hw).elim (fun e => e ▸ hc) (h w)
  have h4 : New4.tab.before a s = true := unparts (wk q3 (.code New4.yN New4.yB 6 none)) (wks q3 (.initialized New4.yN.cls :: New4.site))
  have q4 : ∀ w ∈ New4.tab :: words, w.before a s = true := fun w hw => (List.mem_cons.mp hw).elim (fun e => e ▸ h4) (h w)
  exact unparts (wk q4 (.code New1.yN New1.yB 2 none)) (wks q4 (.initialized New1.yN.cls :: New1.site))
/-- the words ride from the start Z to the walk's own state -/
theorem moved {Z s : State} {a0 args : Array Value} (hZ : Z.Warmed39 s.vm) (hw : ∀ d ∈ words, d.before a0 Z = true) : ∀ d ∈ words, d.before args s = true := fun d hd => by
  have q := hw d hd
  have t : ∀ d ∈ words, d = .arrayClass .byte ∨ (d.onTables && d.keepsFace) = true := by decide +kernel
  rcases t d hd with rfl | t
  · exact RoadKit.mvA hZ q
  · exact RoadKit.mv hZ q t
/-- WHAT COMES BACK, over the tables of the start Z: h the heap at the call, h' behind it -/
def Q (Z : State) (x : Addr) (A : Cell) (h : Heap) (v : Option Value) (h' : Heap) (L : List Loc) : Prop := v = none ∧ (∀ y ∈ L, y.base = x) ∧ RoadKit.Keep h h' [x] ∧ h'.size = h.size + 1 ∧ RoadKit.Exa Z h' x ST ∧ RoadKit.Fld Z h' x ST "value" "[B" (.ref h.size) ∧ RoadKit.Fld Z h' x ST "coder" "B" (.int 0) ∧
  (∃ V : Cell, RoadKit.Arr Z h' h.size V .byte ∧ V.vm = .none ∧ Z.vm.findClass "[B" = some V.cls ∧ V.slots.size = A.slots.size ∧ ∀ j, j < A.slots.size → V.slots[j]? = some (.int (lo8 (cv A j)))) ∧
  ∀ (O n d : String) (w : Value), RoadKit.Fld Z h x O n d w → RoadKit.slotOf Z O n d ≠ RoadKit.slotOf Z ST "value" "[B" → RoadKit.slotOf Z O n d ≠ RoadKit.slotOf Z ST "coder" "B" → RoadKit.Fld Z h' x O n d w
/-- **new String(chars) AT A CALL, IN THE ROAD'S FORM**: for specialBack behind newO: x the fresh String, b the char[] with the cell A -/
theorem back {p : Program} {l : Launch} {e : Env} {R : Room} {s : State} {args : Array Value} {below : List Frame} {len W : Nat} {Z : State} {a0 : Array Value} {h : Heap} (hZ : Z.Warmed39 s.vm) (hw : ∀ d ∈ words, d.before a0 Z = true) {kI : Nat} (wi : (Jvm.Cond.instantiable ST kI).before a0 Z = true)
    {x b : Addr} {A : Cell} {z : Int32} {v0 c0 : Value} (E : RoadKit.Exa Z h x ST) (V : RoadKit.Fld Z h x ST "value" "[B" v0) (C : RoadKit.Fld Z h x ST "coder" "B" c0) (K : RoadKit.Arr Z h b A .char) (hty : Typed .char A) (S : RoadKit.Sta Z h ST "COMPACT_STRINGS" "Z" (.int z)) (hz : ¬ z = 0)
    (l0 : 0 < A.slots.size) (l2 : A.slots.size ≤ 536870912) (hp : ∀ i, i < A.slots.size → ¬ 255 < cv A i) (hfr : 4 ≤ R.frames) (hlo : W + 65 ≤ R.locals) :
    Back l R p e below s args New1.yN len W (fun P a => a = #[.ref x, .ref b] ∧ P.U.heap = h ∧ P.cells + 1 ≤ R.cells ∧ P.slots + A.slots.size ≤ R.slots)
      (fun P _ v B => ∃ L, Q Z x A h v B.U.heap L ∧ B.locs = P.locs ++ L ∧ B.cells = P.cells + 1 ∧ B.slots = P.slots + A.slots.size) := by
  intro m meth c P g ig mk a X hg hsize hdg hW hn hp'
  obtain ⟨rfl, rfl, r1, r2⟩ := hp'
  have al : Z.vm.Alike P.U.vm := hZ.alike.trans X.warmed.alike
  obtain ⟨D, cfV, kV, iV, fV, hD, gV, stV, knV, obV, asV, slV⟩ := id V
  obtain ⟨D', cfC, kC, iC, fC, hD', gC, stC, -, -, asC, slC⟩ := id C
  cases hD.symm.trans hD'
  obtain ⟨D2, kD, e1, e2, e3, e4, e5⟩ := id E
  cases hD.symm.trans e1
  obtain ⟨c2, k2, i1, i2, i3, -⟩ := Cond.instantiable_spec wi
  cases e2.symm.trans i1
  cases e3.symm.trans i2
  obtain ⟨kU, u1, u2⟩ := al.2.2 _ _ e3
  have hB : Blank ST x D P.U := ⟨hD, ⟨knV, fun q hq => by rw [hq] at obV; cases obV⟩, by rw [al.findClass]; exact e2, kU, u1, by rw [u2]; exact i3, by rw [u2]; exact e5 i3⟩
  have F1 : Found ST "value" "[B" fV P.U := ⟨SBG.found_only al ⟨cfV, kV, iV, gV⟩, stV⟩
  have F2 : Found ST "coder" "B" fC P.U := ⟨SBG.found_only al ⟨cfC, kC, iC, gC⟩, stC⟩
  have hA : Ch b A P.U := ⟨⟨K.1, State.isArrayOf_alike al K.2.1, K.2.2, by omega⟩, hty⟩
  have hS : StaticIs P.U ST "COMPACT_STRINGS" "Z" (.int z) := by
    obtain ⟨cfS, iS, kS, fS, st, cS, t1, t2, t3, t4, t5, t6, t7⟩ := S
    exact StaticIs.there (s := { Z with heap := P.U.heap }) ⟨cfS, iS, kS, fS, st, cS, t1, t2, t3, t4, t5, (fun q => by rw [q] at t6; cases t6), t7⟩ al rfl
  obtain ⟨v, B, X', ⟨⟨hv, E', V', q1, q2, q3, q4, q5, q6, q7, q8, q9, q10, q11⟩, hl, hc, hs⟩, st⟩ := New1.pays x D fV fC b A z (tab_of (moved hZ hw)) hfr hlo m meth c P g ig mk _ X hg hsize hdg hW hn ⟨r1, r2, rfl, hB, F1, F2, hA, hS, hz, l0, l2, hp⟩
  have al' : Z.vm.Alike B.U.vm := hZ.alike.trans X'.warmed.alike
  have hsz : E'.slots.size = D.slots.size := by
    obtain ⟨-, -, -, kB, w1, w2, w3⟩ := q1
    obtain ⟨kB', y1, y2⟩ := al'.2.2 _ _ e3
    rw [q2.2.1] at w1
    cases w1.symm.trans y1
    rw [w3, e5 i3, y2]
  refine ⟨v, B, X', ⟨_, ⟨hv, ?_, ⟨by omega, fun y cy hy hn' => q10 y cy (by simpa using hn') hy, fun y cy hy => ?_⟩, q11, ⟨E', _, q1.1, by rw [q2.2.1]; exact e2, by rw [q2.2.1]; exact e3, by rw [q2.1]; exact obV, fun _ => by rw [hsz]; exact e5 i3⟩,
    ⟨E', cfV, kV, iV, fV, q1.1, gV, stV, by rw [q2.1]; exact knV, by rw [q2.1]; exact obV, by rw [q2.2.1]; exact asV, q3⟩, ⟨E', cfC, kC, iC, fC, q1.1, gC, stC, by rw [q2.1]; exact knV, by rw [q2.1]; exact obV, by rw [q2.2.1]; exact asC, q4⟩,
    ⟨V', ⟨q5.1, State.isArrayOf_alike al'.symm q5.2.1, q5.2.2.1⟩, q6, by rw [← al'.findClass]; exact q7, q8, fun j hj => by have := q9 j hj; rwa [Nat.zero_add] at this⟩, fun O n d w F n1 n2 => ?_⟩, hl, hc, hs⟩, st⟩
  · intro y hy
    simp only [List.mem_cons, List.not_mem_nil, or_false] at hy
    rcases hy with rfl | rfl <;> rfl
  · by_cases q : y = x
    · subst q
      cases hD.symm.trans hy
      exact ⟨E', q1.1, q2.2.1, q2.1, hsz⟩
    · exact ⟨cy, q10 y cy q hy, rfl, rfl, rfl⟩
  · obtain ⟨D3, cf, k, i, f, g1, g2, g3, g4, g5, g6, g7⟩ := F
    cases hD.symm.trans g1
    simp only [RoadKit.slotOf, g2, gV, gC, Option.map_some, Option.getD_some] at n1 n2
    exact ⟨E', cf, k, i, f, q1.1, g2, g3, by rw [q2.1]; exact g4, by rw [q2.1]; exact g5, by rw [q2.2.1]; exact g6, by rw [q2.2.2 f.slot (by simp [n1, n2])]; exact g7⟩
end StrChars.Road
namespace StrChars.Road
open Jvm Sem ClassFile Op Lib Jvm.Stand Jvm.Free Jvm.Free.XT
/-- WHAT COMES BACK, the byte[] as a list of values -/
def QA (Z : State) (x : Addr) (zn : Int32) (cs : List Int32) (h : Heap) (v : Option Value) (h' : Heap) (L : List Loc) : Prop := v = none ∧ (∀ y ∈ L, y.base = x) ∧ RoadKit.Keep h h' [x] ∧ h'.size = h.size + 1 ∧ RoadKit.Exa Z h' x ST ∧ RoadKit.Fld Z h' x ST "value" "[B" (.ref h.size) ∧ RoadKit.Fld Z h' x ST "coder" "B" (.int 0) ∧
  (∃ kb, Z.vm.findClass "[B" = some kb ∧ RoadKit.Arv Z h' h.size kb .byte zn (cs.map fun c => .int (lo8 c)) (.int 0)) ∧
  ∀ (O n d : String) (w : Value), RoadKit.Fld Z h x O n d w → RoadKit.slotOf Z O n d ≠ RoadKit.slotOf Z ST "value" "[B" → RoadKit.slotOf Z O n d ≠ RoadKit.slotOf Z ST "coder" "B" → RoadKit.Fld Z h' x O n d w
/-- **new String(chars) AT A CALL, THE ARRAYS AS LISTS**: the char[] at b holds cs, not empty, no char above 255 -/
theorem backArv {p : Program} {l : Launch} {e : Env} {R : Room} {s : State} {args : Array Value} {below : List Frame} {len W : Nat} {Z : State} {a0 : Array Value} {h : Heap} (hZ : Z.Warmed39 s.vm) (hw : ∀ d ∈ words, d.before a0 Z = true) {kI : Nat} (wi : (Jvm.Cond.instantiable ST kI).before a0 Z = true)
    {x b : Addr} {k : ClassId} {zn z : Int32} {cs : List Int32} {dv v0 c0 : Value} (E : RoadKit.Exa Z h x ST) (V : RoadKit.Fld Z h x ST "value" "[B" v0) (C : RoadKit.Fld Z h x ST "coder" "B" c0) (K : RoadKit.Arv Z h b k .char zn (cs.map Value.int) dv) (S : RoadKit.Sta Z h ST "COMPACT_STRINGS" "Z" (.int z)) (hz : ¬ z = 0)
    (hlen : zn.toNatClampNeg = cs.length) (h0 : 0 < cs.length) (hbig : cs.length ≤ 536870912) (hall : ∀ c ∈ cs, ¬ 255 < c) (hfr : 4 ≤ R.frames) (hlo : W + 65 ≤ R.locals) :
    Back l R p e below s args New1.yN len W (fun P a => a = #[.ref x, .ref b] ∧ P.U.heap = h ∧ P.cells + 1 ≤ R.cells ∧ P.slots + cs.length ≤ R.slots)
      (fun P _ v B => ∃ L, QA Z x zn cs h v B.U.heap L ∧ B.locs = P.locs ++ L ∧ B.cells = P.cells + 1 ∧ B.slots = P.slots + cs.length) := by
  obtain ⟨A, K1, K2, K3, K4, K5, K6⟩ := K
  have e : A.slots.size = cs.length := K3.trans hlen
  have hat : ∀ (i : Nat) (hi : i < cs.length), A.slots[i]? = some (.int cs[i]) := fun i hi => by rw [K5 i (by omega)]; simp [List.getD_eq_getElem?_getD, hi]
  have hcv : ∀ (i : Nat) (hi : i < cs.length), cv A i = cs[i] := fun i hi => by unfold cv; rw [hat i hi]
  have hty : Typed .char A := fun i v hv => by
    have hi : i < A.slots.size := (Array.getElem?_eq_some_iff.mp hv).1
    have q := K5 i hi
    rw [hv] at q
    rw [Option.some.inj q]
    exact K6 i hi
  refine Back.mono (back hZ hw wi E V C K1 hty S hz (by omega) (by omega) (fun i hi => by rw [hcv i (by omega)]; exact hall _ (List.getElem_mem _)) hfr hlo) (fun P a hp => ⟨hp.1, hp.2.1, hp.2.2.1, by rw [e]; exact hp.2.2.2⟩) (fun P a v B hp hq => ?_)
  obtain ⟨L, ⟨q1, q2, q3, q4, q5, q6, q7, ⟨V', v1, v2, v3, v4, v5⟩, q9⟩, hl, hc, hs⟩ := hq
  refine ⟨L, ⟨q1, q2, q3, q4, q5, q6, q7, ⟨V'.cls, v3, V', v1, rfl, by rw [v4, e, hlen], K4, fun i hi => ?_, fun i hi => ?_⟩, q9⟩, hl, hc, by rw [hs, e]⟩
  · have hi' : i < cs.length := by omega
    rw [v5 i (by omega), hcv i hi']; simp [List.getD_eq_getElem?_getD, hi']
  · have hi' : i < cs.length := by omega
    simp only [List.getD_eq_getElem?_getD, List.getElem?_map, List.getElem?_eq_getElem hi', Option.map_some, Option.getD_some]
    exact fits_lo8 _
end StrChars.Road
namespace StrChars.Road
open Jvm Sem ClassFile Op Lib Jvm.Stand Jvm.Free Jvm.Free.XT
/-- WHAT COMES BACK, in the writer's own shape -/
def QV (Z : State) (x : Addr) (N : Int32) (bs : List Int32) (h : Heap) (n0 : Nat) (v : Option Value) (h' : Heap) (L : List Loc) : Prop := v = none ∧ RoadKit.Fr n0 L ∧ RoadKit.Keep h h' [x] ∧ RoadKit.Exa Z h' x ST ∧ RoadKit.Fld Z h' x ST "coder" "B" (.int 0) ∧
  ∃ (t : Addr) (kb : ClassId), n0 ≤ t ∧ h.size ≤ t ∧ ¬ t = x ∧ RoadKit.Fld Z h' x ST "value" "[B" (.ref t) ∧ RoadKit.Arv Z h' t kb .byte N (bs.map Value.int) (.int 0)
/-- **new String(chars) AT A CALL, FOR THE WRITER**: a char[] of n known ints, each 0 to 255 -/
theorem backV {p : Program} {l : Launch} {e : Env} {R : Room} {s : State} {args : Array Value} {below : List Frame} {len W : Nat} {Z : State} {a0 : Array Value} {h : Heap} (hZ : Z.Warmed39 s.vm) (hw : ∀ d ∈ words, d.before a0 Z = true) {kI : Nat} (wi : (Jvm.Cond.instantiable ST kI).before a0 Z = true)
    {x b : Addr} {kC : ClassId} {cs bs : List Int32} {d v0 c0 : Value} {z N : Int32} {n n0 : Nat} (hx0 : n0 ≤ x) (hh0 : n0 ≤ h.size) (E : RoadKit.Exa Z h x ST) (V : RoadKit.Fld Z h x ST "value" "[B" v0) (C : RoadKit.Fld Z h x ST "coder" "B" c0) (K : RoadKit.Arv Z h b kC .char N (cs.map Value.int) d) (S : RoadKit.Sta Z h ST "COMPACT_STRINGS" "Z" (.int z)) (hz : ¬ z = 0)
    (hn : cs.length = n) (hN : N = Int32.ofNat n) (l0 : 0 < n) (l2 : n ≤ 4000) (hp : ∀ c ∈ cs, ¬ c < 0 ∧ ¬ (255 : Int32) < c) (hb : bs = cs.map (fun c => c.toInt8.toInt32)) (hfr : 4 ≤ R.frames) (hlo : W + 65 ≤ R.locals) :
    Back l R p e below s args (⟨"java/lang/String", "<init>", "([C)V"⟩ : MethodName) len W (fun P a => a = #[.ref x, .ref b] ∧ P.U.heap = h ∧ P.cells + 1 ≤ R.cells ∧ P.slots + n ≤ R.slots)
      (fun P _ v B => ∃ L, QV Z x N bs h n0 v B.U.heap L ∧ B.locs = P.locs ++ L ∧ B.cells = P.cells + 1 ∧ B.slots = P.slots + n) := by
  subst hn hN hb
  refine Back.mono (backArv hZ hw wi E V C K S hz (n32 (by omega)) l0 (by omega) (fun c hc => (hp c hc).2) hfr hlo) (fun P a hp => hp) (fun P a v B hp hq => ?_)
  obtain ⟨L, ⟨q1, q2, q3, q4, q5, q6, q7, ⟨kb, v1, v2⟩, q9⟩, hl, hc, hs⟩ := hq
  exact ⟨L, ⟨q1, fun y hy => by rw [q2 y hy]; exact hx0, q3, q5, q7, h.size, kb, hh0, Nat.le_refl _, Nat.ne_of_gt E.lt, q6, by rw [List.map_map]; exact v2⟩, hl, hc, hs⟩
end StrChars.Road
namespace StrChars
open Jvm Sem ClassFile Op Lib Jvm.Stand Jvm.Free.XT Jvm.Free.ALB Jvm.Free.JM Jvm.Free
open Jvm.Lib.Cold (StaticIs)
def hi8 (x : Int32) : Int32 := lo8 (x >>> ((8 : Int32) &&& 31))
/-- what StringUTF16.getChar makes of two bytes -/
def pairCh (u v : Int32) : Int32 := (((u &&& 255) <<< ((0 : Int32) &&& 31)) ||| ((v &&& 255) <<< ((8 : Int32) &&& 31))).toUInt32.toUInt16.toUInt32.toInt32
theorem lo8_and (x : Int32) : (lo8 x &&& 255).toBitVec.toNat = x.toBitVec.toNat % 256 := by
  have h : (lo8 x).toBitVec = (x.toBitVec.signExtend 8).signExtend 32 := by rw [lo8, Int8.toBitVec_toInt32, Int32.toBitVec_toInt8]
  rw [Int32.toBitVec_and, BitVec.toNat_and, h]
  have e : ((x.toBitVec.signExtend 8).signExtend 32).toNat % 256 = x.toBitVec.toNat % 256 := by
    rw [BitVec.toNat_signExtend]
    have hlt := x.toBitVec.isLt
    simp only [BitVec.toNat_setWidth, BitVec.toNat_signExtend]
    split <;> split <;> omega
  rw [← e]
  exact Nat.and_two_pow_sub_one_eq_mod _ 8
theorem pair_says {c : Int32} (h0 : ¬ c < 0) (h1 : ¬ 65535 < c) : pairCh (lo8 c) (hi8 c) = c := by
  rw [Int32.lt_iff_toInt_lt] at h0 h1
  have e0 : (0 : Int32).toInt = 0 := rfl
  have e1 : (65535 : Int32).toInt = 65535 := rfl
  have hc : c.toInt = c.toBitVec.toNat := by
    have := c.toBitVec.isLt
    have e : c.toInt = c.toBitVec.toInt := rfl
    rw [e] at h0 h1
    rw [e]
    rw [BitVec.toInt_eq_toNat_cond] at h0 h1 ⊢
    split at h0 <;> split <;> omega
  have hn : c.toBitVec.toNat < 65536 := by omega
  have a1 := lo8_and c
  have a2 : (hi8 c &&& 255).toBitVec.toNat = c.toBitVec.toNat / 256 := by
    rw [hi8, lo8_and]
    have e : ((8 : Int32) &&& 31) = 8 := by decide
    rw [e, Int32.toBitVec_shiftRight]
    have e2 : ((8 : Int32).toBitVec.smod 32) = 8#32 := by decide
    rw [e2, BitVec.sshiftRight_eq', BitVec.toNat_sshiftRight_of_msb_false (by rw [BitVec.msb_eq_false_iff_two_mul_lt]; omega)]
    show c.toBitVec.toNat >>> 8 % 256 = _
    rw [Nat.shiftRight_eq_div_pow]
    omega
  unfold pairCh
  apply Int32.toBitVec_inj.mp
  apply BitVec.eq_of_toNat_eq
  have f0 : ((0 : Int32) &&& 31) = 0 := by decide
  have f8 : ((8 : Int32) &&& 31) = 8 := by decide
  rw [f0, f8]
  have g : (((lo8 c &&& 255) <<< (0 : Int32)) ||| ((hi8 c &&& 255) <<< (8 : Int32))).toBitVec.toNat = c.toBitVec.toNat := by
    rw [Int32.toBitVec_or, Int32.toBitVec_shiftLeft, Int32.toBitVec_shiftLeft]
    have s0 : ((0 : Int32).toBitVec.smod 32) = 0#32 := by decide
    have s8 : ((8 : Int32).toBitVec.smod 32) = 8#32 := by decide
    rw [s0, s8, BitVec.toNat_or]
    simp only [BitVec.shiftLeft_eq', BitVec.toNat_shiftLeft, a1, a2]
    show (c.toBitVec.toNat % 256) <<< 0 % 2 ^ 32 ||| (c.toBitVec.toNat / 256) <<< 8 % 2 ^ 32 = _
    rw [Nat.shiftLeft_zero, Nat.mod_eq_of_lt (show c.toBitVec.toNat % 256 < 2 ^ 32 by omega), Nat.mod_eq_of_lt (show (c.toBitVec.toNat / 256) <<< 8 < 2 ^ 32 by rw [Nat.shiftLeft_eq]; omega), Nat.or_comm, ← Nat.shiftLeft_add_eq_or_of_lt (by omega), Nat.shiftLeft_eq]
    omega
  show BitVec.toNat (((((lo8 c &&& 255) <<< (0 : Int32)) ||| ((hi8 c &&& 255) <<< (8 : Int32))).toBitVec.setWidth 16).setWidth 32) = _
  rw [BitVec.toNat_setWidth, BitVec.toNat_setWidth, g]
  omega
end StrChars
namespace StrChars
open Jvm Sem ClassFile Op Lib Jvm.Stand Jvm.Free.XT Jvm.Free.ALB Jvm.Free.JM Jvm.Free
open Jvm.Lib.Cold (StaticIs)
/-- the array's cell V codes the n chars f 0 .. f (n - 1) by the coder cd, as the JDK does: coder 1 just where some char is above 255 -/
def Cod (cd : Int32) (n : Nat) (f : Nat → Int32) (V : Cell) : Prop := (cd = 0 ∧ V.slots.size = n ∧ ∀ j, j < n → V.slots[j]? = some (.int (lo8 (f j))) ∧ ¬ 255 < f j) ∨ (cd = 1 ∧ V.slots.size = 2 * n ∧ (∀ j, j < n → V.slots[2 * j]? = some (.int (lo8 (f j))) ∧ V.slots[2 * j + 1]? = some (.int (hi8 (f j)))) ∧ ∃ j, j < n ∧ 255 < f j)
/-- **x is a String of the n chars f 0 .. f (n - 1)**, Latin-1 or UTF-16; its array at t has the cell V -/
def Txt (x t : Addr) (V : Cell) (cd : Int32) (n : Nat) (f : Nat → Int32) (U : State) : Prop := Exact "java/lang/String" x U ∧ Has x "java/lang/String" "value" "[B" (.ref t) U ∧ Has x "java/lang/String" "coder" "B" (.int cd) U ∧ XT.Arr .byte t V U ∧ Cod cd n f V ∧ ∀ j, j < n → ¬ f j < 0 ∧ ¬ 65535 < f j
theorem Txt.mv {x t : Addr} {V : Cell} {cd : Int32} {n : Nat} {f : Nat → Int32} {U U' : State} (h : Txt x t V cd n f U) (hal : U.vm.Alike U'.vm) (hh : U'.heap = U.heap) : Txt x t V cd n f U' := ⟨h.1.mv hal hh, h.2.1.mv hal hh, h.2.2.1.mv hal hh, h.2.2.2.1.mv hal hh, h.2.2.2.2⟩
end StrChars
namespace StrChars.Road
open Jvm Sem ClassFile Op Lib Jvm.Stand Jvm.Free Jvm.Free.XT
open Jvm.Lib.Cold (StaticIs)
theorem consq {a : Array Value} {s : State} {c : Jvm.Cond} {L : List Jvm.Cond} (h0 : c.before a s = true) (h : ∀ w ∈ L, w.before a s = true) : ∀ w ∈ c :: L, w.before a s = true := fun w hw => (List.mem_cons.mp hw).elim (fun e => e ▸ h0) (h w)
/-- the bytes of the chars cs, low before high -/
def wideBytes : List Int32 → List Value
  | [] => []
  | c :: cs => .int (lo8 c) :: .int (hi8 c) :: wideBytes cs
theorem wide_lo (d : Value) : ∀ (cs : List Int32) (j : Nat), j < cs.length → (wideBytes cs).getD (2 * j) d = .int (lo8 (cs.getD j 0))
  | [], j, h => absurd h (Nat.not_lt_zero j)
  | c :: cs, 0, _ => rfl
  | c :: cs, j + 1, h => by
    have q := wide_lo d cs j (by simpa using h)
    rw [show 2 * (j + 1) = 2 * j + 1 + 1 from by omega]
    simpa [wideBytes] using q
theorem wide_hi (d : Value) : ∀ (cs : List Int32) (j : Nat), j < cs.length → (wideBytes cs).getD (2 * j + 1) d = .int (hi8 (cs.getD j 0))
  | [], j, h => absurd h (Nat.not_lt_zero j)
  | c :: cs, 0, _ => rfl
  | c :: cs, j + 1, h => by
    have q := wide_hi d cs j (by simpa using h)
    rw [show 2 * (j + 1) + 1 = 2 * j + 1 + 1 + 1 from by omega]
    simpa [wideBytes] using q
theorem low_at (d : Value) (cs : List Int32) (j : Nat) (h : j < cs.length) : (cs.map fun c => Value.int (lo8 c)).getD j d = .int (lo8 (cs.getD j 0)) := by
  simp [List.getD_eq_getElem?_getD, h]
/-- an array of N2 bytes vs codes the chars cs by the coder cd -/
def CodA (cs : List Int32) (cd N2 : Int32) (vs : List Value) : Prop := (cd = 0 ∧ N2 = Int32.ofNat cs.length ∧ vs = (cs.map fun c => Value.int (lo8 c)) ∧ ∀ c ∈ cs, ¬ 255 < c) ∨ (cd = 1 ∧ N2 = Int32.ofNat (2 * cs.length) ∧ vs = wideBytes cs ∧ ∃ c ∈ cs, 255 < c)
theorem CodA.cod {cs : List Int32} {cd N2 : Int32} {vs : List Value} {V : Cell} (h : CodA cs cd N2 vs) (hn : 2 * cs.length < 2 ^ 31) (hs : V.slots.size = N2.toNatClampNeg) (hv : RoadKit.Has V vs (.int 0)) : Cod cd cs.length (fun j => cs.getD j 0) V := by
  rcases h with ⟨rfl, rfl, rfl, h⟩ | ⟨rfl, rfl, rfl, c, hc, hw⟩
  · rw [n32 (by omega)] at hs
    exact Or.inl ⟨rfl, hs, fun j hj => ⟨by rw [hv j (by omega), low_at _ _ _ hj], by
      have e : cs.getD j 0 = cs[j] := by simp [List.getD_eq_getElem?_getD, hj]
      show ¬ 255 < cs.getD j 0
      rw [e]; exact h _ (List.getElem_mem _)⟩⟩
  · rw [n32 (by omega)] at hs
    obtain ⟨j, hj, rfl⟩ := List.getElem_of_mem hc
    exact Or.inr ⟨rfl, hs, fun j hj => ⟨by rw [hv _ (by omega), wide_lo _ _ _ hj], by rw [hv _ (by omega), wide_hi _ _ _ hj]⟩, j, hj, by
      have e : cs.getD j 0 = cs[j] := by simp [List.getD_eq_getElem?_getD, hj]
      show 255 < cs.getD j 0
      rw [e]; exact hw⟩
/-- an object of exactly java/lang/String, its two fields found: as the laws ask it -/
theorem strObj {Z U : State} {a0 : Array Value} {kI : Nat} (wi : (Jvm.Cond.instantiable ST kI).before a0 Z = true) (al : Z.vm.Alike U.vm) {x : Addr} {v0 c0 : Value} (E : RoadKit.Exa Z U.heap x ST) (V : RoadKit.Fld Z U.heap x ST "value" "[B" v0) (C : RoadKit.Fld Z U.heap x ST "coder" "B" c0) :
    ∃ (D : Cell) (fV fC : Field), Blank ST x D U ∧ Found ST "value" "[B" fV U ∧ Found ST "coder" "B" fC U ∧ D.slots[fV.slot]? = some v0 ∧ D.slots[fC.slot]? = some c0 ∧ RoadKit.slotOf Z ST "value" "[B" = fV.slot ∧ RoadKit.slotOf Z ST "coder" "B" = fC.slot := by
  obtain ⟨D, cfV, kV, iV, fV, hD, gV, stV, knV, obV, asV, slV⟩ := V
  obtain ⟨D', cfC, kC, iC, fC, hD', gC, stC, -, -, asC, slC⟩ := C
  cases hD.symm.trans hD'
  obtain ⟨D2, kD, e1, e2, e3, e4, e5⟩ := E
  cases hD.symm.trans e1
  obtain ⟨c2, k2, i1, i2, i3, -⟩ := Cond.instantiable_spec wi
  cases e2.symm.trans i1
  cases e3.symm.trans i2
  obtain ⟨kU, u1, u2⟩ := al.2.2 _ _ e3
  exact ⟨D, fV, fC, ⟨hD, ⟨knV, fun q hq => by rw [hq] at obV; cases obV⟩, by rw [al.findClass]; exact e2, kU, u1, by rw [u2]; exact i3, by rw [u2]; exact e5 i3⟩, ⟨SBG.found_only al ⟨cfV, kV, iV, gV⟩, stV⟩, ⟨SBG.found_only al ⟨cfC, kC, iC, gC⟩, stC⟩, slV, slC, by simp [RoadKit.slotOf, gV], by simp [RoadKit.slotOf, gC]⟩
theorem sta_is {Z U : State} (al : Z.vm.Alike U.vm) {C n d : String} {v : Value} (S : RoadKit.Sta Z U.heap C n d v) : StaticIs U C n d v := by
  obtain ⟨cfS, iS, kS, fS, st, cS, t1, t2, t3, t4, t5, t6, t7⟩ := S
  exact StaticIs.there (s := { Z with heap := U.heap }) ⟨cfS, iS, kS, fS, st, cS, t1, t2, t3, t4, t5, (fun q => by rw [q] at t6; cases t6), t7⟩ al rfl
end StrChars.Road
namespace StrChars
open Jvm Sem ClassFile Op Lib Jvm.Stand Jvm.Free.XT Jvm.Free.ALB Jvm.Free.JM Jvm.Free
open Jvm.Lib.Cold (StaticIs)
/-- what place i of a byte[]'s cell holds -/
def yv (A : Cell) (i : Nat) : Int32 := match A.slots[i]? with | some (.int x) => x | _ => 0
theorem yv_get {a : Addr} {A : Cell} {U : State} (h : XT.Arr .byte a A U) (ht : Typed .byte A) {i : Nat} (hi : i < A.slots.size) : A.slots[i]? = some (.int (yv A i)) := by
  have e := Array.getElem?_eq_getElem hi
  have f := ht i _ e
  unfold yv; rw [e]
  generalize A.slots[i] = v at f
  cases v <;> simp [fits] at f ⊢
/-- the two arrays are equal, place for place -/
def EqC (A B : Cell) : Prop := A.slots.size = B.slots.size ∧ ∀ i, i < A.slots.size → yv A i = yv B i
/-- a boolean that says whether p -/
def Says01 (q : Prop) (r : Option Value) (s u : State) : Prop := ∃ v : Int32, r = some (.int v) ∧ u.heap = s.heap ∧ ((v = 1 ∧ q) ∨ (v = 0 ∧ ¬ q))
theorem Says01.mv {q : Prop} : ∀ r (U U' V V' : State), U'.heap = U.heap → V.vm.Alike V'.vm → V'.heap = V.heap → Says01 q r U V → Says01 q r U' V' :=
  fun r U U' V V' h1 _ h2 ⟨v, a, b, c⟩ => ⟨v, a, by rw [h1, h2]; exact b, c⟩
namespace LEq
def yN : MethodName := ⟨"java/lang/StringLatin1", "equals", "([B[B)Z"⟩
abbrev yB : ByteArray := jdk_43_method_13_code
theorem d0 : decode yB 0 = .ok (.aload_n 0, 1) := by decide +kernel
theorem d1 : decode yB 1 = .ok (.arraylength, 1) := by decide +kernel
theorem d2 : decode yB 2 = .ok (.aload_n 1, 1) := by decide +kernel
theorem d3 : decode yB 3 = .ok (.arraylength, 1) := by decide +kernel
theorem d4 : decode yB 4 = .ok (.if_icmp (.ne) 30, 3) := by decide +kernel
theorem d7 : decode yB 7 = .ok (.iconst 0, 1) := by decide +kernel
theorem d8 : decode yB 8 = .ok (.istore_n 2, 1) := by decide +kernel
theorem d9 : decode yB 9 = .ok (.iload_n 2, 1) := by decide +kernel
theorem d10 : decode yB 10 = .ok (.aload_n 0, 1) := by decide +kernel
theorem d11 : decode yB 11 = .ok (.arraylength, 1) := by decide +kernel
theorem d12 : decode yB 12 = .ok (.if_icmp (.ge) 20, 3) := by decide +kernel
theorem d15 : decode yB 15 = .ok (.aload_n 0, 1) := by decide +kernel
theorem d16 : decode yB 16 = .ok (.iload_n 2, 1) := by decide +kernel
theorem d17 : decode yB 17 = .ok (.baload, 1) := by decide +kernel
theorem d18 : decode yB 18 = .ok (.aload_n 1, 1) := by decide +kernel
theorem d19 : decode yB 19 = .ok (.iload_n 2, 1) := by decide +kernel
theorem d20 : decode yB 20 = .ok (.baload, 1) := by decide +kernel
theorem d21 : decode yB 21 = .ok (.if_icmp (.eq) 5, 3) := by decide +kernel
theorem d24 : decode yB 24 = .ok (.iconst 0, 1) := by decide +kernel
theorem d25 : decode yB 25 = .ok (.ireturn, 1) := by decide +kernel
theorem d26 : decode yB 26 = .ok (.iinc 2 1, 3) := by decide +kernel
theorem d29 : decode yB 29 = .ok (.goto (-20), 3) := by decide +kernel
theorem d32 : decode yB 32 = .ok (.iconst 1, 1) := by decide +kernel
theorem d33 : decode yB 33 = .ok (.ireturn, 1) := by decide +kernel
theorem d34 : decode yB 34 = .ok (.iconst 0, 1) := by decide +kernel
theorem d35 : decode yB 35 = .ok (.ireturn, 1) := by decide +kernel
def site : List Cond := []
def tab : Cond := tabOf yN yB 3 (some .boolean) site
def P (a : Addr) (A : Cell) (b : Addr) (B : Cell) (args : Array Value) (s : State) : Prop := args = #[.ref a, .ref b] ∧ XT.Arr .byte a A s ∧ Typed .byte A ∧ XT.Arr .byte b B s ∧ Typed .byte B
/-- whether two byte[] are equal, place for place -/
theorem law (l : Launch) (a : Addr) (A : Cell) (b : Addr) (B : Cell) : Law l yN 2 2 0 0 yB 3 (some .boolean) site (P a A b B) (Says01 (EqC A B)) [] 0 0 := by
  refine Law.of_walk (plainFor_of_name (by decide +kernel)) (by decide +kernel) (by decide +kernel) (by decide) (fun _ _ h => by rw [h.1]; rfl) (fun _ U U' hal hh h => ⟨h.1, h.2.1.mv hal hh, h.2.2.1, h.2.2.2.1.mv hal hh, h.2.2.2.2⟩) (fun r U U' V V' h1 hal h2 h => Says01.mv r U U' V V' h1 hal h2 h) ?_
  intro p e s m args below meth c s₁ X0 hexec hbytes hml hret hlk hnm hown hh0 W hP
  obtain ⟨rfl, hA, tA, hB, tB⟩ := hP
  have a31 := hA.2.2.2
  have b31 := hB.2.2.2
  have hA0 := hA.mv X0.warmed.alike hh0
  have hB0 := hB.mv X0.warmed.alike hh0
  have c1 : Steps p.tables e below (s₁.setTop (entryFrame m #[.ref a, .ref b] 3)) (s₁.setTop (mkF m 0 #[.val (.ref a), .val (.ref b), .unset] [])) := entry rfl
  have c2 : Steps p.tables e below (s₁.setTop (entryFrame m #[.ref a, .ref b] 3)) (s₁.setTop (mkF m 4 #[.val (.ref a), .val (.ref b), .unset] [.int (Int32.ofNat B.slots.size), .int (Int32.ofNat A.slots.size)])) := c1.trans (by
    refine XS.aloadN X0.here hexec rfl (hb hbytes d0) rfl rfl ?_
    refine X0.alen hexec hA0 rfl rfl (hb hbytes d1) ?_
    refine XS.aloadN X0.here hexec rfl (hb hbytes d2) rfl rfl ?_
    refine X0.alen hexec hB0 rfl rfl (hb hbytes d3) ?_
    exact Steps.refl _)
  by_cases hs : A.slots.size = B.slots.size
  · have c3 : Steps p.tables e below (s₁.setTop (entryFrame m #[.ref a, .ref b] 3)) (s₁.setTop (mkF m 9 #[.val (.ref a), .val (.ref b), .val (.int 0)] [])) := c2.trans (by
      refine XS.icmpNo X0.here hexec rfl (hb hbytes d4) rfl (ii_ne_f (by rw [hs])) ?_
      refine iconstV X0.here hexec rfl 0 (hb hbytes d7) (by decide) ?_
      refine XS.istoreN X0.here hexec rfl (hb hbytes d8) rfl rfl ?_
      exact Steps.refl _)
    have loop : ∀ (r i : Nat), i + r = A.slots.size → (∀ j, j < i → yv A j = yv B j) → Steps p.tables e below (s₁.setTop (entryFrame m #[.ref a, .ref b] 3)) (s₁.setTop (mkF m 9 #[.val (.ref a), .val (.ref b), .val (.int (Int32.ofNat i))] [])) → ∃ (pc : Nat) (Ls : Array Slot) (v : Int32), (pc = 25 ∨ pc = 33) ∧ ((v = 1 ∧ EqC A B) ∨ (v = 0 ∧ ¬ EqC A B)) ∧ Steps p.tables e below (s₁.setTop (entryFrame m #[.ref a, .ref b] 3)) (s₁.setTop (mkF m pc Ls [.int v])) := by
      intro r
      induction r with
      | zero =>
        intro i hi he cl
        exact ⟨33, _, 1, Or.inr rfl, Or.inl ⟨rfl, hs, fun j hj => he j (by omega)⟩, cl.trans (by
          refine XS.iloadN X0.here hexec rfl (hb hbytes d9) rfl ?_
          refine XS.aloadN X0.here hexec rfl (hb hbytes d10) rfl rfl ?_
          refine X0.alen hexec hA0 rfl rfl (hb hbytes d11) ?_
          refine XS.icmpYes X0.here hexec rfl (pc0 := 12) rfl (hb hbytes d12) rfl (ii_ge_t (nlt32 (by omega) (by omega))) (by decide) rfl ?_
          refine iconstV X0.here hexec rfl 1 (hb hbytes d32) (by decide) ?_
          exact Steps.refl _)⟩
      | succ r ih =>
        intro i hi he cl
        have c4 : Steps p.tables e below (s₁.setTop (entryFrame m #[.ref a, .ref b] 3)) (s₁.setTop (mkF m 21 #[.val (.ref a), .val (.ref b), .val (.int (Int32.ofNat i))] [.int (yv B i), .int (yv A i)])) := cl.trans (by
          refine XS.iloadN X0.here hexec rfl (hb hbytes d9) rfl ?_
          refine XS.aloadN X0.here hexec rfl (hb hbytes d10) rfl rfl ?_
          refine X0.alen hexec hA0 rfl rfl (hb hbytes d11) ?_
          refine XS.icmpNo X0.here hexec rfl (hb hbytes d12) rfl (ii_ge_f (lt32 (by omega) (by omega))) ?_
          refine XS.aloadN X0.here hexec rfl (hb hbytes d15) rfl rfl ?_
          refine XS.iloadN X0.here hexec rfl (hb hbytes d16) rfl ?_
          refine X0.aget hexec hA0 rfl (yv_get hA tA (i := i) (by omega)) rfl rfl (hb hbytes d17) ?_
          refine XS.aloadN X0.here hexec rfl (hb hbytes d18) rfl rfl ?_
          refine XS.iloadN X0.here hexec rfl (hb hbytes d19) rfl ?_
          refine X0.aget hexec hB0 rfl (yv_get hB tB (i := i) (by omega)) rfl rfl (hb hbytes d20) ?_
          exact Steps.refl _)
        by_cases hv : yv A i = yv B i
        · have c5 : Steps p.tables e below (s₁.setTop (entryFrame m #[.ref a, .ref b] 3)) (s₁.setTop (mkF m 9 #[.val (.ref a), .val (.ref b), .val (.int (Int32.ofNat i + 1))] [])) := c4.trans (by
            refine XS.icmpYes X0.here hexec rfl (pc0 := 21) rfl (hb hbytes d21) rfl (ii_eq_t hv) (by decide) rfl ?_
            refine iincV X0.here hexec rfl 1 (hb hbytes d26) (by decide) rfl rfl ?_
            refine XS.goto X0.here hexec rfl (pc0 := 29) rfl (hb hbytes d29) (by decide) rfl ?_
            exact Steps.refl _)
          rw [succ32] at c5
          exact ih (i + 1) (by omega) (fun j hj => by
            by_cases e : j = i
            · rw [e]; exact hv
            · exact he j (by omega)) c5
        · exact ⟨25, _, 0, Or.inl rfl, Or.inr ⟨rfl, fun q => hv (q.2 i (by omega))⟩, c4.trans (by
            refine XS.icmpNo X0.here hexec rfl (hb hbytes d21) rfl (ii_eq_f hv) ?_
            refine iconstV X0.here hexec rfl 0 (hb hbytes d24) (by decide) ?_
            exact Steps.refl _)⟩
    obtain ⟨pc, Ls, v, hpc, hv, cz⟩ := loop A.slots.size 0 (by omega) (fun j hj => absurd hj (Nat.not_lt_zero j)) c3
    have nv : narrow .boolean (.int v) = .int v := by rcases hv with ⟨rfl, -⟩ | ⟨rfl, -⟩ <;> rfl
    rcases hpc with rfl | rfl
    · exact ⟨s₁, some (.int v), _, _, _, X0, rfl, rfl, rfl, (fun h => by cases h), ⟨v, rfl, hh0, hv⟩, fun fs hl => cz.trans (X0.ireturnOut hexec hret nv (Or.inr (Or.inl rfl)) (hb hbytes d25) hl)⟩
    · exact ⟨s₁, some (.int v), _, _, _, X0, rfl, rfl, rfl, (fun h => by cases h), ⟨v, rfl, hh0, hv⟩, fun fs hl => cz.trans (X0.ireturnOut hexec hret nv (Or.inr (Or.inl rfl)) (hb hbytes d33) hl)⟩
  · have c3 : Steps p.tables e below (s₁.setTop (entryFrame m #[.ref a, .ref b] 3)) (s₁.setTop (mkF m 35 #[.val (.ref a), .val (.ref b), .unset] [.int 0])) := c2.trans (by
      refine XS.icmpYes X0.here hexec rfl (pc0 := 4) rfl (hb hbytes d4) rfl (ii_ne_t (ne32 a31 b31 hs)) (by decide) rfl ?_
      refine iconstV X0.here hexec rfl 0 (hb hbytes d34) (by decide) ?_
      exact Steps.refl _)
    exact ⟨s₁, some (.int 0), _, _, _, X0, rfl, rfl, rfl, (fun h => by cases h), ⟨0, rfl, hh0, Or.inr ⟨rfl, fun q => hs q.1⟩⟩, fun fs hl => c3.trans (X0.ireturnOut hexec hret rfl (Or.inr (Or.inl rfl)) (hb hbytes d35) hl)⟩
end LEq
theorem Cod.ty {cd : Int32} {n : Nat} {f : Nat → Int32} {V : Cell} (h : Cod cd n f V) : Typed .byte V := fun i v hv => by
  have hi : i < V.slots.size := (Array.getElem?_eq_some_iff.mp hv).1
  rcases h with ⟨-, k1, k2⟩ | ⟨-, k1, k2, -⟩
  · rw [(k2 i (by omega)).1] at hv; cases hv; exact fits_lo8 _
  · rcases Nat.mod_two_eq_zero_or_one i with e | e
    · obtain ⟨j, rfl⟩ : ∃ j, i = 2 * j := ⟨i / 2, by omega⟩
      rw [(k2 j (by omega)).1] at hv; cases hv; exact fits_lo8 _
    · obtain ⟨j, rfl⟩ : ∃ j, i = 2 * j + 1 := ⟨i / 2, by omega⟩
      rw [(k2 j (by omega)).2] at hv; cases hv; exact fits_lo8 _
/-- the same text -/
def SameT (n : Nat) (f : Nat → Int32) (k : Nat) (g : Nat → Int32) : Prop := n = k ∧ ∀ j, j < n → f j = g j
theorem lo8_inj {x y : Int32} (h0 : ¬ x < 0) (h1 : ¬ 255 < x) (k0 : ¬ y < 0) (k1 : ¬ 255 < y) (h : lo8 x = lo8 y) : x = y := by
  rw [← lo8_mask h0 h1, ← lo8_mask k0 k1, h]
/-- arrays coded by one coder are equal just where the texts are -/
theorem Cod.eqv {cd : Int32} {n k : Nat} {f g : Nat → Int32} {V V' : Cell} (h : Cod cd n f V) (h' : Cod cd k g V') (hf : ∀ j, j < n → ¬ f j < 0 ∧ ¬ 65535 < f j) (hg : ∀ j, j < k → ¬ g j < 0 ∧ ¬ 65535 < g j) : EqC V V' ↔ SameT n f k g := by
  have yvv : ∀ {W : Cell} {i : Nat} {x : Int32}, W.slots[i]? = some (.int x) → yv W i = x := fun q => by unfold yv; rw [q]
  rcases h with ⟨rfl, k1, k2⟩ | ⟨rfl, k1, k2, -⟩
  · rcases h' with ⟨-, m1, m2⟩ | ⟨e, -⟩
    · constructor
      · rintro ⟨e1, e2⟩
        refine ⟨by omega, fun j hj => ?_⟩
        have q := e2 j (by omega)
        rw [yvv (k2 j hj).1, yvv (m2 j (by omega)).1] at q
        exact lo8_inj (hf j hj).1 (k2 j hj).2 (hg j (by omega)).1 (m2 j (by omega)).2 q
      · rintro ⟨rfl, e2⟩
        refine ⟨by omega, fun j hj => ?_⟩
        rw [yvv (k2 j (by omega)).1, yvv (m2 j (by omega)).1, e2 j (by omega)]
    · exact absurd e (by decide)
  · rcases h' with ⟨e, -⟩ | ⟨-, m1, m2, -⟩
    · exact absurd e (by decide)
    · constructor
      · rintro ⟨e1, e2⟩
        refine ⟨by omega, fun j hj => ?_⟩
        have q1 := e2 (2 * j) (by omega)
        have q2 := e2 (2 * j + 1) (by omega)
        rw [yvv (k2 j hj).1, yvv (m2 j (by omega)).1] at q1
        rw [yvv (k2 j hj).2, yvv (m2 j (by omega)).2] at q2
        rw [← pair_says (hf j hj).1 (hf j hj).2, ← pair_says (hg j (by omega)).1 (hg j (by omega)).2, q1, q2]
      · rintro ⟨rfl, e2⟩
        refine ⟨by omega, fun i hi => ?_⟩
        rcases Nat.mod_two_eq_zero_or_one i with e | e
        · obtain ⟨j, rfl⟩ : ∃ j, i = 2 * j := ⟨i / 2, by omega⟩
          rw [yvv (k2 j (by omega)).1, yvv (m2 j (by omega)).1, e2 j (by omega)]
        · obtain ⟨j, rfl⟩ : ∃ j, i = 2 * j + 1 := ⟨i / 2, by omega⟩
          rw [yvv (k2 j (by omega)).2, yvv (m2 j (by omega)).2, e2 j (by omega)]
/-- two codings differ: so do the texts -/
theorem Cod.dif {cd cd' : Int32} {n k : Nat} {f g : Nat → Int32} {V V' : Cell} (h : Cod cd n f V) (h' : Cod cd' k g V') (hne : ¬ cd = cd') : ¬ SameT n f k g := by
  rintro ⟨rfl, e⟩
  rcases h with ⟨rfl, -, k2⟩ | ⟨rfl, -, -, j, hj, hw⟩
  · rcases h' with ⟨rfl, -⟩ | ⟨-, -, -, j, hj, hw⟩
    · exact hne rfl
    · exact (k2 j hj).2 (by rw [e j hj]; exact hw)
  · rcases h' with ⟨-, -, m2⟩ | ⟨rfl, -⟩
    · exact (m2 j hj).2 (by rw [← e j hj]; exact hw)
    · exact hne rfl
/-- an object of exactly C is an instance of C -/
theorem cinst {p : Program} {l : Launch} {e : Env} {R : Room} {s : State} {m : MethodId} {args : Array Value} {below : List Frame} {meth : Method} {c : Code} {T : State} {locs : List Loc} {cells slots : Nat} (X : Stand p l e R s m args below meth c T locs cells slots) (hexec : p.tables.exec = Jvm.exec) {own C : String} {index : Nat} (hown : s.vm.findClass own = some m.cls) (hlink : (Cond.classLink own index C).before args s = true) {a : Addr} (hE : Exact C a T)
    {g : JFrame} (hg : g.method = m) {rest : List Value} (hstack : g.stack = .ref a :: rest) (hdg : decode c.code g.pc = .ok (.instanceof index, 3)) :
    ∃ T', Stand p l e R s m args below meth c T' locs cells slots ∧ T'.heap = T.heap ∧ ∀ target, Steps p.tables e below (T'.setTop { g with pc := g.pc + 3, stack := .int 1 :: rest }) target → Steps p.tables e below (T.setTop g) target := by
  obtain ⟨cB, h1, D, h2, h3, h4⟩ := hE
  have h1' : s.vm.findClass C = some cB := by rw [← X.warmed.alike.findClass]; exact h1
  obtain ⟨vm', X', st⟩ := X.instanceofYes hexec hown hlink h2 h4 h1' (by rw [h3]; exact Jvm.Free.SB.assignable_self _ _) hg hstack hdg
  exact ⟨_, X', rfl, st⟩
theorem cself {p : Program} {l : Launch} {e : Env} {R : Room} {s : State} {m : MethodId} {args : Array Value} {below : List Frame} {meth : Method} {c : Code} {T : State} {locs : List Loc} {cells slots : Nat} (X : Stand p l e R s m args below meth c T locs cells slots) (hexec : p.tables.exec = Jvm.exec) {own C : String} {index : Nat} (hown : s.vm.findClass own = some m.cls) (hlink : (Cond.classLink own index C).before args s = true) {a : Addr} (hE : Exact C a T)
    {g : JFrame} (hg : g.method = m) {rest : List Value} (hstack : g.stack = .ref a :: rest) (hdg : decode c.code g.pc = .ok (.checkcast index, 3)) :
    ∃ T', Stand p l e R s m args below meth c T' locs cells slots ∧ T'.heap = T.heap ∧ ∀ target, Steps p.tables e below (T'.setTop { g with pc := g.pc + 3, stack := .ref a :: rest }) target → Steps p.tables e below (T.setTop g) target := by
  obtain ⟨cB, h1, D, h2, h3, h4⟩ := hE
  have h1' : s.vm.findClass C = some cB := by rw [← X.warmed.alike.findClass]; exact h1
  obtain ⟨vm', X', st⟩ := X.checkcastYes hexec hown hlink h2 h4 h1' (by rw [h3]; exact Jvm.Free.SB.assignable_self _ _) hg hstack hdg
  exact ⟨_, X', rfl, fun t h => st t (by rw [← hstack] at h; exact h)⟩
namespace SEq
def yN : MethodName := ⟨"java/lang/String", "equals", "(Ljava/lang/Object;)Z"⟩
abbrev yB : ByteArray := jdk_42_method_66_code
theorem d0 : decode yB 0 = .ok (.aload_n 0, 1) := by decide +kernel
theorem d1 : decode yB 1 = .ok (.aload_n 1, 1) := by decide +kernel
theorem d2 : decode yB 2 = .ok (.if_acmp (.ne) 5, 3) := by decide +kernel
theorem d5 : decode yB 5 = .ok (.iconst 1, 1) := by decide +kernel
theorem d6 : decode yB 6 = .ok (.ireturn, 1) := by decide +kernel
theorem d7 : decode yB 7 = .ok (.aload_n 1, 1) := by decide +kernel
theorem d8 : decode yB 8 = .ok (.instanceof 10, 3) := by decide +kernel
theorem d11 : decode yB 11 = .ok (.ifCond (.eq) 43, 3) := by decide +kernel
theorem d14 : decode yB 14 = .ok (.aload_n 1, 1) := by decide +kernel
theorem d15 : decode yB 15 = .ok (.checkcast 10, 3) := by decide +kernel
theorem d18 : decode yB 18 = .ok (.astore_n 2, 1) := by decide +kernel
theorem d19 : decode yB 19 = .ok (.getstatic 38, 3) := by decide +kernel
theorem d22 : decode yB 22 = .ok (.ifCond (.eq) 14, 3) := by decide +kernel
theorem d25 : decode yB 25 = .ok (.aload_n 0, 1) := by decide +kernel
theorem d26 : decode yB 26 = .ok (.getfield 15, 3) := by decide +kernel
theorem d29 : decode yB 29 = .ok (.aload_n 2, 1) := by decide +kernel
theorem d30 : decode yB 30 = .ok (.getfield 15, 3) := by decide +kernel
theorem d33 : decode yB 33 = .ok (.if_icmp (.ne) 21, 3) := by decide +kernel
theorem d36 : decode yB 36 = .ok (.aload_n 0, 1) := by decide +kernel
theorem d37 : decode yB 37 = .ok (.getfield 9, 3) := by decide +kernel
theorem d40 : decode yB 40 = .ok (.aload_n 2, 1) := by decide +kernel
theorem d41 : decode yB 41 = .ok (.getfield 9, 3) := by decide +kernel
theorem d44 : decode yB 44 = .ok (.invokestatic 541, 3) := by decide +kernel
theorem d47 : decode yB 47 = .ok (.ifCond (.eq) 7, 3) := by decide +kernel
theorem d50 : decode yB 50 = .ok (.iconst 1, 1) := by decide +kernel
theorem d51 : decode yB 51 = .ok (.goto 4, 3) := by decide +kernel
theorem d54 : decode yB 54 = .ok (.iconst 0, 1) := by decide +kernel
theorem d55 : decode yB 55 = .ok (.ireturn, 1) := by decide +kernel
def site : List Cond := [.classLink "java/lang/String" 10 "java/lang/String", .fieldLink "java/lang/String" 38 "java/lang/String" "COMPACT_STRINGS" "Z", .fieldLink "java/lang/String" 15 "java/lang/String" "coder" "B", .fieldLink "java/lang/String" 9 "java/lang/String" "value" "[B", LEq.tab] ++ staticW "java/lang/String" 541 LEq.yN
def tab : Cond := tabOf yN yB 3 (some .boolean) site
def P (x t : Addr) (V : Cell) (cd : Int32) (n : Nat) (f : Nat → Int32) (y t' : Addr) (V' : Cell) (cd' : Int32) (k : Nat) (g : Nat → Int32) (z : Int32) (args : Array Value) (s : State) : Prop := args = #[.ref x, .ref y] ∧ Txt x t V cd n f s ∧ Txt y t' V' cd' k g s ∧ StaticIs s "java/lang/String" "COMPACT_STRINGS" "Z" (.int z) ∧ ¬ z = 0
/-- equals(Object) of two Strings: whether the texts are the same -/
theorem law (l : Launch) (x t : Addr) (V : Cell) (cd : Int32) (n : Nat) (f : Nat → Int32) (y t' : Addr) (V' : Cell) (cd' : Int32) (k : Nat) (g : Nat → Int32) (z : Int32) : Law l yN 2 1 1 14 yB 3 (some .boolean) site (P x t V cd n f y t' V' cd' k g z) (Says01 (SameT n f k g)) [] 0 0 := by
  refine Law.of_walk (plainFor_of_name (by decide +kernel)) (by decide +kernel) (by decide +kernel) (by decide) (fun _ _ h => by rw [h.1]; rfl) (fun _ U U' hal hh h => ⟨h.1, h.2.1.mv hal hh, h.2.2.1.mv hal hh, h.2.2.2.1.there hal hh, h.2.2.2.2⟩) (fun r U U' V V' h1 hal h2 h => Says01.mv r U U' V V' h1 hal h2 h) ?_
  intro p e s m args below meth c s₁ X0 hexec hbytes hml hret hlk hnm hown hh0 W hP
  obtain ⟨rfl, hx, hy, s1, hz⟩ := hP
  have c1 : Steps p.tables e below (s₁.setTop (entryFrame m #[.ref x, .ref y] 3)) (s₁.setTop (mkF m 2 #[.val (.ref x), .val (.ref y), .unset] [.ref y, .ref x])) := Steps.trans (entry rfl) (by
    show Steps p.tables e below (s₁.setTop (mkF m 0 #[.val (.ref x), .val (.ref y), .unset] [])) _
    refine XS.aloadN X0.here hexec rfl (hb hbytes d0) rfl rfl ?_
    refine XS.aloadN X0.here hexec rfl (hb hbytes d1) rfl rfl ?_
    exact Steps.refl _)
  by_cases hxy : x = y
  · have c2 : Steps p.tables e below (s₁.setTop (entryFrame m #[.ref x, .ref y] 3)) (s₁.setTop (mkF m 6 #[.val (.ref x), .val (.ref y), .unset] [.int 1])) := c1.trans (by
      refine acmpNo X0.here hexec rfl (hb hbytes d2) rfl rfl rfl (by simp [acmp, hxy]) ?_
      refine iconstV X0.here hexec rfl 1 (hb hbytes d5) (by decide) ?_
      exact Steps.refl _)
    subst hxy
    have ec : cd = cd' := by
      obtain ⟨D, fd, a1, a2, a3⟩ := hx.2.2.1
      obtain ⟨D', fd', b1, b2, b3⟩ := hy.2.2.1
      cases a1.symm.trans b1
      obtain ⟨q1, q2, q3, q4⟩ := a2.1
      obtain ⟨r1, r2, r3, r4⟩ := b2.1
      cases q4.symm.trans r4
      cases a3.symm.trans b3; rfl
    have et : t = t' := by
      obtain ⟨D, fd, a1, a2, a3⟩ := hx.2.1
      obtain ⟨D', fd', b1, b2, b3⟩ := hy.2.1
      cases a1.symm.trans b1
      obtain ⟨q1, q2, q3, q4⟩ := a2.1
      obtain ⟨r1, r2, r3, r4⟩ := b2.1
      cases q4.symm.trans r4
      cases a3.symm.trans b3; rfl
    subst ec et
    have ev : V = V' := by cases hx.2.2.2.1.1.symm.trans hy.2.2.2.1.1; rfl
    subst ev
    have hs : SameT n f k g := (Cod.eqv hx.2.2.2.2.1 hy.2.2.2.2.1 hx.2.2.2.2.2 hy.2.2.2.2.2).mp ⟨rfl, fun _ _ => rfl⟩
    exact ⟨s₁, some (.int 1), _, _, _, X0, rfl, rfl, rfl, (fun h => by cases h), ⟨1, rfl, hh0, Or.inl ⟨rfl, hs⟩⟩, fun fs hl => c2.trans (X0.ireturnOut hexec hret rfl (Or.inr (Or.inl rfl)) (hb hbytes d6) hl)⟩
  · have c2 : Steps p.tables e below (s₁.setTop (entryFrame m #[.ref x, .ref y] 3)) (s₁.setTop (mkF m 8 #[.val (.ref x), .val (.ref y), .unset] [.ref y])) := c1.trans (by
      refine acmpYes X0.here hexec rfl (pc0 := 2) rfl (hb hbytes d2) rfl rfl rfl (by simp [acmp, hxy]) (by decide) rfl ?_
      refine XS.aloadN X0.here hexec rfl (hb hbytes d7) rfl rfl ?_
      exact Steps.refl _)
    obtain ⟨T3, X3, q3, st3⟩ := cinst X0 hexec hown (wk W (.classLink "java/lang/String" 10 "java/lang/String")) (hy.mv X0.warmed.alike hh0).1 (g := (mkF m 8 #[.val (.ref x), .val (.ref y), .unset] [.ref y])) rfl (rest := []) rfl (hb hbytes d8)
    have hh3 := q3.trans hh0
    have c4 : Steps p.tables e below (s₁.setTop (entryFrame m #[.ref x, .ref y] 3)) (T3.setTop (mkF m 15 #[.val (.ref x), .val (.ref y), .unset] [.ref y])) := (c2.trans (st3 _ (Steps.refl _))).trans (by
      refine XS.ifNo X3.here hexec rfl (hb hbytes d11) rfl (i0_eq_f (by decide)) ?_
      refine XS.aloadN X3.here hexec rfl (hb hbytes d14) rfl rfl ?_
      exact Steps.refl _)
    obtain ⟨T5, X5, q5, st5⟩ := cself X3 hexec hown (wk W (.classLink "java/lang/String" 10 "java/lang/String")) (hy.mv X3.warmed.alike hh3).1 (g := (mkF m 15 #[.val (.ref x), .val (.ref y), .unset] [.ref y])) rfl (rest := []) rfl (hb hbytes d15)
    have hh5 := q5.trans hh3
    have c6 : Steps p.tables e below (s₁.setTop (entryFrame m #[.ref x, .ref y] 3)) (T5.setTop (mkF m 19 #[.val (.ref x), .val (.ref y), .val (.ref y)] [])) := (c4.trans (st5 _ (Steps.refl _))).trans (by
      refine XS.astoreN X5.here hexec rfl (hb hbytes d18) rfl rfl rfl ?_
      exact Steps.refl _)
    obtain ⟨T7, X7, q7, st7⟩ := X5.sget hexec hown (wk W (.fieldLink "java/lang/String" 38 "java/lang/String" "COMPACT_STRINGS" "Z")) s1 (fun _ _ h => by rw [hh5]; exact h) (g := (mkF m 19 #[.val (.ref x), .val (.ref y), .val (.ref y)] [])) rfl (hb hbytes d19)
    have hh7 := q7.trans hh5
    have c8 : Steps p.tables e below (s₁.setTop (entryFrame m #[.ref x, .ref y] 3)) (T7.setTop (mkF m 26 #[.val (.ref x), .val (.ref y), .val (.ref y)] [.ref x])) := (c6.trans (st7 _ (Steps.refl _))).trans (by
      refine XS.ifNo X7.here hexec rfl (hb hbytes d22) rfl (i0_eq_f hz) ?_
      refine XS.aloadN X7.here hexec rfl (hb hbytes d25) rfl rfl ?_
      exact Steps.refl _)
    obtain ⟨T9, X9, q9, st9⟩ := X7.hget hexec hown (wk W (.fieldLink "java/lang/String" 15 "java/lang/String" "coder" "B")) (hx.mv X7.warmed.alike hh7).2.2.1 (g := (mkF m 26 #[.val (.ref x), .val (.ref y), .val (.ref y)] [.ref x])) rfl (rest := []) rfl (hb hbytes d26)
    have hh9 := q9.trans hh7
    have c10 : Steps p.tables e below (s₁.setTop (entryFrame m #[.ref x, .ref y] 3)) (T9.setTop (mkF m 30 #[.val (.ref x), .val (.ref y), .val (.ref y)] [.ref y, .int cd])) := (c8.trans (st9 _ (Steps.refl _))).trans (by
      refine XS.aloadN X9.here hexec rfl (hb hbytes d29) rfl rfl ?_
      exact Steps.refl _)
    obtain ⟨T11, X11, q11, st11⟩ := X9.hget hexec hown (wk W (.fieldLink "java/lang/String" 15 "java/lang/String" "coder" "B")) (hy.mv X9.warmed.alike hh9).2.2.1 (g := (mkF m 30 #[.val (.ref x), .val (.ref y), .val (.ref y)] [.ref y, .int cd])) rfl (rest := [.int cd]) rfl (hb hbytes d30)
    have hh11 := q11.trans hh9
    have c12 : Steps p.tables e below (s₁.setTop (entryFrame m #[.ref x, .ref y] 3)) (T11.setTop (mkF m 33 #[.val (.ref x), .val (.ref y), .val (.ref y)] [.int cd', .int cd])) := c10.trans (st11 _ (Steps.refl _))
    by_cases hcd : cd = cd'
    · subst hcd
      have c13 : Steps p.tables e below (s₁.setTop (entryFrame m #[.ref x, .ref y] 3)) (T11.setTop (mkF m 37 #[.val (.ref x), .val (.ref y), .val (.ref y)] [.ref x])) := c12.trans (by
        refine XS.icmpNo X11.here hexec rfl (hb hbytes d33) rfl (ii_ne_f rfl) ?_
        refine XS.aloadN X11.here hexec rfl (hb hbytes d36) rfl rfl ?_
        exact Steps.refl _)
      obtain ⟨T14, X14, q14, st14⟩ := X11.hget hexec hown (wk W (.fieldLink "java/lang/String" 9 "java/lang/String" "value" "[B")) (hx.mv X11.warmed.alike hh11).2.1 (g := (mkF m 37 #[.val (.ref x), .val (.ref y), .val (.ref y)] [.ref x])) rfl (rest := []) rfl (hb hbytes d37)
      have hh14 := q14.trans hh11
      have c15 : Steps p.tables e below (s₁.setTop (entryFrame m #[.ref x, .ref y] 3)) (T14.setTop (mkF m 41 #[.val (.ref x), .val (.ref y), .val (.ref y)] [.ref y, .ref t])) := (c13.trans (st14 _ (Steps.refl _))).trans (by
        refine XS.aloadN X14.here hexec rfl (hb hbytes d40) rfl rfl ?_
        exact Steps.refl _)
      obtain ⟨T16, X16, q16, st16⟩ := X14.hget hexec hown (wk W (.fieldLink "java/lang/String" 9 "java/lang/String" "value" "[B")) (hy.mv X14.warmed.alike hh14).2.1 (g := (mkF m 41 #[.val (.ref x), .val (.ref y), .val (.ref y)] [.ref y, .ref t])) rfl (rest := [.ref t]) rfl (hb hbytes d41)
      have hh16 := q16.trans hh14
      have c17 : Steps p.tables e below (s₁.setTop (entryFrame m #[.ref x, .ref y] 3)) (T16.setTop (mkF m 44 #[.val (.ref x), .val (.ref y), .val (.ref y)] [.ref t', .ref t])) := c15.trans (st16 _ (Steps.refl _))
      obtain ⟨v18, T18, X18, E18, g18⟩ := X16.callS hexec (LEq.law l t V t' V') hown (wks W (staticW "java/lang/String" 541 LEq.yN)) (wk W LEq.tab) (W := 0) (Nat.le_of_ble_eq_true rfl) (Nat.le_of_ble_eq_true rfl) (Nat.le_refl _) (Nat.le_refl _) (g := (mkF m 44 #[.val (.ref x), .val (.ref y), .val (.ref y)] [.ref t', .ref t])) rfl (by rw [hml]; rfl) c17 (argsL := [.ref t, .ref t']) (rest := []) rfl rfl (by show 2 * 0 + 0 ≤ _; decide) (hb hbytes d44) (⟨rfl, hx.2.2.2.1.mv X16.warmed.alike hh16, hx.2.2.2.2.1.ty, hy.2.2.2.1.mv X16.warmed.alike hh16, hy.2.2.2.2.1.ty⟩)
      obtain ⟨v, rfl, q18, hv⟩ := E18
      have iff := Cod.eqv hx.2.2.2.2.1 hy.2.2.2.2.1 hx.2.2.2.2.2 hy.2.2.2.2.2
      rcases hv with ⟨rfl, he⟩ | ⟨rfl, he⟩
      · have c19 : Steps p.tables e below (s₁.setTop (entryFrame m #[.ref x, .ref y] 3)) (T18.setTop (mkF m 55 #[.val (.ref x), .val (.ref y), .val (.ref y)] [.int 1])) := Steps.trans g18 (by
          refine XS.ifNo X18.here hexec rfl (hb hbytes d47) rfl (i0_eq_f (by decide)) ?_
          refine iconstV X18.here hexec rfl 1 (hb hbytes d50) (by decide) ?_
          refine XS.goto X18.here hexec rfl (pc0 := 51) rfl (hb hbytes d51) (by decide) rfl ?_
          exact Steps.refl _)
        exact ⟨T18, some (.int 1), _, _, _, X18, rfl, rfl, rfl, (fun h => by cases h), ⟨1, rfl, q18.trans hh16, Or.inl ⟨rfl, iff.mp he⟩⟩, fun fs hl => c19.trans (X18.ireturnOut hexec hret rfl (Or.inr (Or.inl rfl)) (hb hbytes d55) hl)⟩
      · have c19 : Steps p.tables e below (s₁.setTop (entryFrame m #[.ref x, .ref y] 3)) (T18.setTop (mkF m 55 #[.val (.ref x), .val (.ref y), .val (.ref y)] [.int 0])) := Steps.trans g18 (by
          refine XS.ifYes X18.here hexec rfl (pc0 := 47) rfl (hb hbytes d47) rfl (i0_eq_t rfl) (by decide) rfl ?_
          refine iconstV X18.here hexec rfl 0 (hb hbytes d54) (by decide) ?_
          exact Steps.refl _)
        exact ⟨T18, some (.int 0), _, _, _, X18, rfl, rfl, rfl, (fun h => by cases h), ⟨0, rfl, q18.trans hh16, Or.inr ⟨rfl, fun q => he (iff.mpr q)⟩⟩, fun fs hl => c19.trans (X18.ireturnOut hexec hret rfl (Or.inr (Or.inl rfl)) (hb hbytes d55) hl)⟩
    · have c13 : Steps p.tables e below (s₁.setTop (entryFrame m #[.ref x, .ref y] 3)) (T11.setTop (mkF m 55 #[.val (.ref x), .val (.ref y), .val (.ref y)] [.int 0])) := c12.trans (by
        refine XS.icmpYes X11.here hexec rfl (pc0 := 33) rfl (hb hbytes d33) rfl (ii_ne_t hcd) (by decide) rfl ?_
        refine iconstV X11.here hexec rfl 0 (hb hbytes d54) (by decide) ?_
        exact Steps.refl _)
      exact ⟨T11, some (.int 0), _, _, _, X11, rfl, rfl, rfl, (fun h => by cases h), ⟨0, rfl, hh11, Or.inr ⟨rfl, Cod.dif hx.2.2.2.2.1 hy.2.2.2.2.1 hcd⟩⟩, fun fs hl => c13.trans (X11.ireturnOut hexec hret rfl (Or.inr (Or.inl rfl)) (hb hbytes d55) hl)⟩
theorem pays {l : Launch} {R : Room} {p : Program} {e : Env} {below : List Frame} {s : State} {sargs : Array Value} {len W : Nat} (x t : Addr) (V : Cell) (cd : Int32) (n : Nat) (f : Nat → Int32) (y t' : Addr) (V' : Cell) (cd' : Int32) (k : Nat) (g : Nat → Int32) (z : Int32) (htab : tab.before sargs s = true) (hfr : 2 ≤ R.frames) (hlo : W + 28 ≤ R.locals) :
    Back l R p e below s sargs yN len W (fun A₁ a₁ => A₁.cells + 0 ≤ R.cells ∧ A₁.slots + 0 ≤ R.slots ∧ P x t V cd n f y t' V' cd' k g z a₁ A₁.U) (fun A₁ _ v₁ B₁ => Says01 (SameT n f k g) v₁ A₁.U B₁.U ∧ B₁.locs = A₁.locs ++ [] ∧ B₁.cells = A₁.cells + 0 ∧ B₁.slots = A₁.slots + 0) :=
  (law l x t V cd n f y t' V' cd' k g z).pays htab hfr (by omega)
end SEq
end StrChars
namespace StrChars.Road
open Jvm Sem ClassFile Op Lib Jvm.Stand Jvm.Free Jvm.Free.XT
open Jvm.Lib.Cold (StaticIs)
/-- the words of String.equals(Object) -/
abbrev wordsEq : List Jvm.Cond := [.code SEq.yN SEq.yB 3 (some .boolean), .initialized ST, .classLink ST 10 ST, .fieldLink ST 38 ST "COMPACT_STRINGS" "Z", .fieldLink ST 15 ST "coder" "B", .fieldLink ST 9 ST "value" "[B", .methodLink ST 541 LEq.yN, .static LEq.yN, .code LEq.yN LEq.yB 3 (some .boolean), .initialized "java/lang/StringLatin1"]
theorem tabEq_of {a : Array Value} {s : State} (h : ∀ w ∈ wordsEq, w.before a s = true) : SEq.tab.before a s = true := by
  have hl : LEq.tab.before a s = true := unparts (wk h (.code LEq.yN LEq.yB 3 (some .boolean))) (wks h (.initialized LEq.yN.cls :: LEq.site))
  have q := consq hl h
  exact unparts (wk q (.code SEq.yN SEq.yB 3 (some .boolean))) (wks q (.initialized SEq.yN.cls :: SEq.site))
theorem movedEq {Z s : State} {a0 args : Array Value} (hZ : Z.Warmed39 s.vm) (hw : ∀ d ∈ wordsEq, d.before a0 Z = true) : ∀ d ∈ wordsEq, d.before args s = true := fun d hd => by
  have t : ∀ d ∈ wordsEq, (d.onTables && d.keepsFace) = true := by decide +kernel
  exact RoadKit.mv hZ (hw d hd) (t d hd)
/-- the road's facts of a String, as the laws ask it -/
theorem txt_of {Z U : State} {a0 : Array Value} {kI : Nat} (wi : (Jvm.Cond.instantiable ST kI).before a0 Z = true) (al : Z.vm.Alike U.vm) {x t : Addr} {kb : ClassId} {cs : List Int32} {cd N2 : Int32} {vs : List Value} (E : RoadKit.Exa Z U.heap x ST) (V : RoadKit.Fld Z U.heap x ST "value" "[B" (.ref t)) (C : RoadKit.Fld Z U.heap x ST "coder" "B" (.int cd)) (K : RoadKit.Arv Z U.heap t kb .byte N2 vs (.int 0)) (hc : CodA cs cd N2 vs) (hb : ∀ c ∈ cs, ¬ c < 0 ∧ ¬ (65535 : Int32) < c) (l2 : cs.length ≤ 4000) :
    ∃ A, Txt x t A cd cs.length (fun j => cs.getD j 0) U := by
  obtain ⟨A, K1, K2, K3, K4, K5, K6⟩ := K
  have hcod := hc.cod (by omega) K3 K5
  obtain ⟨D, fV, fC, hB, F1, F2, g1, g2, -, -⟩ := strObj wi al E V C
  exact ⟨A, ⟨_, hB.2.2.1, D, hB.1, rfl, by cases q : D.vm <;> first | rfl | exact absurd q (hB.2.1.2 _)⟩, Has.of hB F1 g1, Has.of hB F2 g2, ⟨K1.1, State.isArrayOf_alike al K1.2.1, K1.2.2, by rcases hcod with ⟨-, q, -⟩ | ⟨-, q, -⟩ <;> omega⟩, hcod, fun j hj => by
    have e : cs.getD j 0 = cs[j] := by simp [List.getD_eq_getElem?_getD, hj]
    show ¬ cs.getD j 0 < 0 ∧ ¬ 65535 < cs.getD j 0
    rw [e]; exact hb _ (List.getElem_mem _)⟩
theorem same_list (cs ds : List Int32) : SameT cs.length (fun j => cs.getD j 0) ds.length (fun j => ds.getD j 0) ↔ cs = ds := by
  constructor
  · rintro ⟨e, q⟩
    refine List.ext_getElem e fun j h1 h2 => ?_
    have := q j h1
    simpa [List.getD_eq_getElem?_getD, h1, h2] using this
  · rintro rfl
    exact ⟨rfl, fun _ _ => rfl⟩
/-- **equals(Object) OF TWO SUCH STRINGS**: 1 just where the chars are the same -/
theorem eqW {p : Program} {l : Launch} {e : Env} {R : Room} {s : State} {args : Array Value} {below : List Frame} {len W : Nat} {Z : State} {a0 : Array Value} {h : Heap} (hZ : Z.Warmed39 s.vm) (hw : ∀ d ∈ wordsEq, d.before a0 Z = true) {kI : Nat} (wi : (Jvm.Cond.instantiable ST kI).before a0 Z = true)
    {x t : Addr} {kb : ClassId} {cs : List Int32} {cd N2 : Int32} {vs : List Value} (E : RoadKit.Exa Z h x ST) (V : RoadKit.Fld Z h x ST "value" "[B" (.ref t)) (C : RoadKit.Fld Z h x ST "coder" "B" (.int cd)) (K : RoadKit.Arv Z h t kb .byte N2 vs (.int 0)) (hc : CodA cs cd N2 vs) (hb : ∀ c ∈ cs, ¬ c < 0 ∧ ¬ (65535 : Int32) < c) (l2 : cs.length ≤ 4000)
    {y t' : Addr} {kb' : ClassId} {ds : List Int32} {cd' N2' : Int32} {vs' : List Value} (E' : RoadKit.Exa Z h y ST) (V' : RoadKit.Fld Z h y ST "value" "[B" (.ref t')) (C' : RoadKit.Fld Z h y ST "coder" "B" (.int cd')) (K' : RoadKit.Arv Z h t' kb' .byte N2' vs' (.int 0)) (hc' : CodA ds cd' N2' vs') (hb' : ∀ c ∈ ds, ¬ c < 0 ∧ ¬ (65535 : Int32) < c) (l2' : ds.length ≤ 4000)
    {z : Int32} (S : RoadKit.Sta Z h ST "COMPACT_STRINGS" "Z" (.int z)) (hz : ¬ z = 0) (hfr : 2 ≤ R.frames) (hlo : W + 28 ≤ R.locals) :
    Back l R p e below s args (⟨"java/lang/String", "equals", "(Ljava/lang/Object;)Z"⟩ : MethodName) len W (fun P a => a = #[.ref x, .ref y] ∧ P.U.heap = h ∧ P.cells + 0 ≤ R.cells ∧ P.slots + 0 ≤ R.slots)
      (fun P _ v B => ∃ L, (((v = some (.int 1) ∧ cs = ds) ∨ (v = some (.int 0) ∧ ¬ cs = ds)) ∧ L = [] ∧ B.U.heap = h) ∧ B.locs = P.locs ++ L ∧ B.cells = P.cells + 0 ∧ B.slots = P.slots + 0) := by
  intro m meth c P g ig mk a X hg hsize hdg hW hn hp'
  obtain ⟨rfl, rfl, r1, r2⟩ := hp'
  have al : Z.vm.Alike P.U.vm := hZ.alike.trans X.warmed.alike
  obtain ⟨A, hx⟩ := txt_of wi al E V C K hc hb l2
  obtain ⟨A', hy⟩ := txt_of wi al E' V' C' K' hc' hb' l2'
  obtain ⟨v, B, X', ⟨⟨w, hv, hh, hq⟩, hl, hk, hs⟩, st⟩ := SEq.pays x t A cd cs.length (fun j => cs.getD j 0) y t' A' cd' ds.length (fun j => ds.getD j 0) z (tabEq_of (movedEq hZ hw)) hfr hlo m meth c P g ig mk _ X hg hsize hdg hW hn ⟨r1, r2, rfl, hx, hy, sta_is al S, hz⟩
  refine ⟨v, B, X', ⟨[], ⟨?_, rfl, hh⟩, hl, hk, hs⟩, st⟩
  rcases hq with ⟨rfl, q⟩ | ⟨rfl, q⟩
  · exact Or.inl ⟨hv, (same_list cs ds).mp q⟩
  · exact Or.inr ⟨hv, fun e => q ((same_list cs ds).mpr e)⟩
end StrChars.Road
namespace StrChars.Road
open Jvm Sem ClassFile Op Lib Jvm.Stand Jvm.Free Jvm.Free.XT
open Jvm.Lib.Cold (StaticIs)
/-- what backV says of its String, as the contracts of this text ask it: cs's low bytes, coder 0 -/
theorem codOf {cs : List Int32} {n : Nat} (hn : cs.length = n) (hb : ∀ c ∈ cs, ¬ 255 < c) : CodA cs 0 (Int32.ofNat n) ((cs.map lo8).map Value.int) := Or.inl ⟨rfl, by rw [hn], by simp [List.map_map, Function.comp_def], hb⟩
end StrChars.Road
end Jvm.Pilot.@@N@@
namespace Jvm.Pilot.@@N@@
open Jvm Jvm.ClassFile Sem Op Lib Jvm.Free Jvm.Stand Jvm.LawKit Jvm.RoadKit Bundle Jvm.Pilot.@@N@@.Jvm.D
theorem own_w {Z : State} {a0 : Array Value} {d : Jvm.Cond} (hw : ∀ d ∈ tables_1, d.before a0 Z = true) (i : Nat) (h : tables_1[i]? = some d) : d.before a0 Z = true := hw d (List.mem_of_getElem? h)
section OwnKit
variable {p : Program} {l : Launch} {e : Env} {R : Room} {s : State} {m : MethodId} {args : Array Value} {below : List Frame} {meth : Method} {c : Code} {T : State} {locs : List Loc} {cells slots : Nat}
/-- the run from S comes to an end of which Q holds -/
def own_Go (p : Program) (e : Env) (below : List Frame) (Q : Outcome → State → Prop) (S : State) : Prop := ∃ s₂ o, Steps p.tables e below S s₂ ∧ s₂.status = .running ∧ Ended s₂ below o ∧ Q o s₂
theorem own_via {Q : Outcome → State → Prop} {A B : State} (h : ∀ t, Steps p.tables e below B t → Steps p.tables e below A t) (g : own_Go p e below Q B) : own_Go p e below Q A := by
  obtain ⟨s2, o, h1, r⟩ := g
  exact ⟨s2, o, h _ h1, r⟩
theorem own_seq {Q : Outcome → State → Prop} {A B : State} (h : own_Go p e below Q B → own_Go p e below Q A) (k : own_Go p e below Q B) : own_Go p e below Q A := h k
theorem own_cast {Q : Outcome → State → Prop} {g g' : JFrame} (q : g = g') (k : own_Go p e below Q (T.setTop g')) : own_Go p e below Q (T.setTop g) := q ▸ k
theorem own_keep_mono {h0 h : Heap} {ws ws' : List Addr} (K : Keep h0 h ws) (q : ∀ x ∈ ws, x ∈ ws') : Keep h0 h ws' := ⟨K.1, fun x c a b => K.2.1 x c a fun z => b (q x z), K.2.2⟩
theorem own_ret0 {Qv : Option Value → Heap → List Loc → Prop} {kc ks : Nat} (X : Stand p l e R s m args below meth c T locs cells slots) (hlocks : meth.locks = false) (hx : p.tables.exec = Jvm.exec) {pc : Nat} {Ls : Array Slot} (hret : meth.sig.returnType = none) (hd : decode c.code pc = .ok (.return_, 1)) (hk : cells ≤ kc) (hs : slots ≤ ks) (hQ : Qv none T.heap locs) :
    own_Go p e below (fun o U' => ∃ v L, o = .returned v ∧ Qv v U'.heap L ∧ FrameEnd s o U' L kc ks) (T.setTop (mkF m pc Ls [])) := by
  obtain ⟨fs, hr, hrun, hended, hW, hsame⟩ := X.leave (v := none) (fun _ => rfl) hlocks
  exact ⟨_, _, X.returnOut hx hret hd hr, hrun, hended, _, _, rfl, hQ, ⟨_, rfl⟩, hW, hsame.mono hk hs⟩
theorem own_retv {Qv : Option Value → Heap → List Loc → Prop} {kc ks : Nat} (X : Stand p l e R s m args below meth c T locs cells slots) (hlocks : meth.locks = false) (hx : p.tables.exec = Jvm.exec) {pc : Nat} {Ls : Array Slot} {w : Value} {t : FieldType} {i : Instr} {rest : List Value} (hret : meth.sig.returnType = some t) (hn : narrow t w = w)
    (hi : (i = .ireturn ∧ (t = .int ∨ t = .boolean ∨ t = .byte ∨ t = .char ∨ t = .short) ∧ ∃ z, w = .int z) ∨ (i = .lreturn ∧ t = .long ∧ ∃ z, w = .long z) ∨ (i = .dreturn ∧ t = .double ∧ ∃ z, w = .double z) ∨ (i = .freturn ∧ t = .float ∧ ∃ z, w = .float z) ∨ (i = .areturn ∧ t.isReference = true ∧ w.isRef = true))
    (hd : decode c.code pc = .ok (i, 1)) (hk : cells ≤ kc) (hs : slots ≤ ks) (hQ : Qv (some w) T.heap locs) :
    own_Go p e below (fun o U' => ∃ v L, o = .returned v ∧ Qv v U'.heap L ∧ FrameEnd s o U' L kc ks) (T.setTop (mkF m pc Ls (w :: rest))) := by
  obtain ⟨fs, hr, hrun, hended, hW, hsame⟩ := X.leave (v := some w) (fun h => by rw [hret] at h; cases h) hlocks
  exact ⟨_, _, retOut X hx hret hn hi hd hr, hrun, hended, _, _, rfl, hQ, ⟨_, rfl⟩, hW, hsame.mono hk hs⟩
theorem own_pop2L {tb : Tables} [Ours tb] {e : Env} {below : List Frame} {T target : State} {m : MethodId} {c : Code} {g : JFrame} (h : At T m c below) (hx : tb.exec = Jvm.exec) (hg : g.method = m) {x : Int64} {rest : List Value} (hd : decode c.code g.pc = .ok (.pop2, 1)) (hs : g.stack = .long x :: rest)
    (hr : Steps tb e below (T.setTop { g with pc := g.pc + 1, stack := rest }) target) : Steps tb e below (T.setTop g) target := by
  subst hg
  jvm_step h [h.top, hx, hd, hs, Value.category]
  exact hr
theorem own_narR {t : FieldType} {w : Value} (h : w.isRef = true) : narrow t w = w := by
  rcases ref_cases h with rfl | ⟨y, rfl⟩ <;> cases t <;> rfl
theorem own_fitR {C : String} {w : Value} (h : w.isRef = true) : fits (.object C) w = true := by
  rcases ref_cases h with rfl | ⟨y, rfl⟩ <;> rfl
theorem own_fitA {t : FieldType} {w : Value} (h : w.isRef = true) : fits (.array t) w = true := by
  rcases ref_cases h with rfl | ⟨y, rfl⟩ <;> rfl
end OwnKit

section OwnCold
variable {p : Program} {l : Launch} {e : Env} {R : Room} {s : State} {m : MethodId} {args : Array Value} {below : List Frame} {meth : Method} {c : Code} {T : State} {locs : List Loc} {cells slots : Nat} {Z : State} {a0 : Array Value} {h : Heap}
/-- a callee that may load a String constant for the first time; J: a word on the tables at its start; Q speaks of the tables at its end too -/
theorem own_backS {y : MethodName} {bytes : ByteArray} {maxL : Nat} {ret : Option FieldType} {rm : Room} {len W : Nat} {as' : Array Value} {J : Vm → Prop} {Q : Option Value → Heap → List Loc → Vm → Prop}
    (hM : MetFree l y (head1 [Cond.code y bytes maxL ret] rm) (fun a U => a = as' ∧ Z.Warmed39 U.vm ∧ U.heap = h ∧ J U.vm) (fun _ _ _ _ _ => True) (fun _ U o U' => ∃ v L, o = .returned v ∧ Q v U'.heap L U'.vm ∧ ReturnedEndW U o U' L rm.cells rm.slots))
    (hZ : Z.Warmed39 s.vm) (wc : (Cond.code y bytes maxL ret).before a0 Z = true) (wz : (Cond.initialized y.cls).before a0 Z = true) (hf : rm.frames + 1 ≤ R.frames) (hl : W + (maxL + 11) + rm.locals ≤ R.locals) :
    BackS l R p e below s args y len W (fun A a => a = as' ∧ A.U.heap = h ∧ J A.U.vm ∧ A.cells + rm.cells ≤ R.cells ∧ A.slots + rm.slots ≤ R.slots)
      (fun A _ v B => ∃ L, Q v B.U.heap L B.U.vm ∧ B.locs = A.locs ++ L ∧ B.cells = A.cells + rm.cells ∧ B.slots = A.slots + rm.slots) := by
  refine BackS.of_freeW (bytes := bytes) (maxL := maxL) (ret := ret) (E := fun _ _ o t L k n => k = rm.cells ∧ n = rm.slots ∧ ∃ v, o = .returned v ∧ Q v t.heap L t.vm) hM hf hl ?_ ?_ ?_ ?_ ?_
  · intro m meth c A a Y hp
    have hU : Z.Warmed39 A.U.vm := wtrans hZ Y.warmed
    refine ⟨?_, mv hU wc, mv hU wz, hp.2.2.2.1, hp.2.2.2.2⟩
    show (Cond.and _ .tt).before a A.U = true
    rw [Cond.before_and, mv hU wc]; rfl
  · intro m meth c A a g mk Y hp
    exact ⟨hp.1, wtrans hZ Y.warmed, hp.2.1, hp.2.2.1⟩
  · intros; trivial
  · rintro _ _ _ _ ⟨v, L, h1, h2, h3⟩
    exact ⟨L, _, _, h3, rfl, rfl, v, h1, h2⟩
  · rintro m meth c A a g mk v t L k n Y hp - - ⟨e1, e2, v', e3, e4⟩
    cases e3; subst e1 e2
    exact ⟨L, e4, rfl, rfl, rfl⟩
theorem own_ret0W {Qv : Option Value → Heap → List Loc → Vm → Prop} {kc ks : Nat} {vm0 : Vm} {k0 : Nat} (X : Stand p l e R (s.setVm vm0) m args below meth c T locs cells slots) (hS : s.Since vm0 k0) (hk0 : k0 ≤ T.heap.size) (hlocks : meth.locks = false) (hx : p.tables.exec = Jvm.exec) {pc : Nat} {Ls : Array Slot} (hret : meth.sig.returnType = none) (hd : decode c.code pc = .ok (.return_, 1)) (hk : cells ≤ kc) (hs : slots ≤ ks) (hQ : Qv none T.heap locs T.vm) :
    own_Go p e below (fun o U' => ∃ v L, o = .returned v ∧ Qv v U'.heap L U'.vm ∧ ReturnedEndW s o U' L kc ks) (T.setTop (mkF m pc Ls [])) := by
  obtain ⟨fs, hr, hrun, hended, hE⟩ := X.leaveW hS hk0 (v := none) (fun _ => rfl) hlocks
  exact ⟨_, _, X.returnOut hx hret hd hr, hrun, hended, _, _, rfl, hQ, hE.1, hE.2.1, hE.2.2.1, hE.2.2.2.mono hk hs⟩
theorem own_retvW {Qv : Option Value → Heap → List Loc → Vm → Prop} {kc ks : Nat} {vm0 : Vm} {k0 : Nat} (X : Stand p l e R (s.setVm vm0) m args below meth c T locs cells slots) (hS : s.Since vm0 k0) (hk0 : k0 ≤ T.heap.size) (hlocks : meth.locks = false) (hx : p.tables.exec = Jvm.exec) {pc : Nat} {Ls : Array Slot} {w : Value} {t : FieldType} {i : Instr} {rest : List Value} (hret : meth.sig.returnType = some t) (hn : narrow t w = w)
    (hi : (i = .ireturn ∧ (t = .int ∨ t = .boolean ∨ t = .byte ∨ t = .char ∨ t = .short) ∧ ∃ z, w = .int z) ∨ (i = .lreturn ∧ t = .long ∧ ∃ z, w = .long z) ∨ (i = .dreturn ∧ t = .double ∧ ∃ z, w = .double z) ∨ (i = .freturn ∧ t = .float ∧ ∃ z, w = .float z) ∨ (i = .areturn ∧ t.isReference = true ∧ w.isRef = true))
    (hd : decode c.code pc = .ok (i, 1)) (hk : cells ≤ kc) (hs : slots ≤ ks) (hQ : Qv (some w) T.heap locs T.vm) :
    own_Go p e below (fun o U' => ∃ v L, o = .returned v ∧ Qv v U'.heap L U'.vm ∧ ReturnedEndW s o U' L kc ks) (T.setTop (mkF m pc Ls (w :: rest))) := by
  obtain ⟨fs, hr, hrun, hended, hE⟩ := X.leaveW hS hk0 (v := some w) (fun h => by rw [hret] at h; cases h) hlocks
  exact ⟨_, _, retOut X hx hret hn hi hd hr, hrun, hended, _, _, rfl, hQ, hE.1, hE.2.1, hE.2.2.1, hE.2.2.2.mono hk hs⟩
end OwnCold

theorem own_wS {Z : State} {a0 : Array Value} (hw : ∀ d ∈ tables_1, d.before a0 Z = true) : ∀ a ∈ Bundle.stringAtoms, a.before a0 Z = true := by
  intro d hd
  simp only [Bundle.stringAtoms, List.mem_cons, List.not_mem_nil, or_false] at hd
  rcases hd with rfl | rfl | rfl | rfl | rfl | rfl | rfl
  · exact (own_w hw 10 rfl)
  · exact (own_w hw 9 rfl)
  · exact (own_w hw 26 rfl)
  · exact (own_w hw 36 rfl)
  · exact (own_w hw 34 rfl)
  · exact (own_w hw 45 rfl)
  · exact (own_w hw 46 rfl)
theorem own_hwords {Z : State} {a0 : Array Value} (hw : ∀ d ∈ tables_1, d.before a0 Z = true) : ∀ d ∈ StrChars.Road.words, d.before a0 Z = true := fun d hd => hw d ((by decide +kernel : ∀ d ∈ StrChars.Road.words, d ∈ tables_1) d hd)
theorem own_hwordsEq {Z : State} {a0 : Array Value} (hw : ∀ d ∈ tables_1, d.before a0 Z = true) : ∀ d ∈ StrChars.Road.wordsEq, d.before a0 Z = true := fun d hd => hw d ((by decide +kernel : ∀ d ∈ StrChars.Road.wordsEq, d ∈ tables_1) d hd)
/-- a String of known chars, each 0 to 255 -/
def own_Str (Z : State) (h : Heap) (a : Addr) (cs : List Int32) : Prop := Exa Z h a "java/lang/String" ∧ Fld Z h a "java/lang/String" "coder" "B" (.int 0) ∧ (∃ (t : Addr) (k : ClassId), Fld Z h a "java/lang/String" "value" "[B" (.ref t) ∧ Arv Z h t k .byte (Int32.ofNat cs.length) ((cs.map fun c => c.toInt8.toInt32).map Value.int) (.int 0)) ∧ (∀ c ∈ cs, ¬ c < 0 ∧ ¬ (255 : Int32) < c) ∧ cs.length ≤ 4000
theorem own_Str.keep0 {Z : State} {h h' : Heap} {a : Addr} {cs : List Int32} (F : own_Str Z h a cs) (K : Keep h h' []) : own_Str Z h' a cs := by
  obtain ⟨E, C, ⟨t, k, V, A⟩, r⟩ := F
  exact ⟨E.keep K, C.keep K nin0, ⟨t, k, V.keep K nin0, A.keep K nin0⟩, r⟩
/-- the cells at ws are objects, no Strings -/
def own_Off (Z : State) (h : Heap) (ws : List Addr) : Prop := ∀ b ∈ ws, ∃ (C : String) (n : Nat) (a0 : Array Value), Exa Z h b C ∧ C ≠ "java/lang/String" ∧ (Jvm.Cond.instantiable C n).before a0 Z = true
theorem own_off0 {Z : State} {h : Heap} : own_Off Z h [] := fun _ q => nomatch q
theorem own_offS {Z : State} {h : Heap} {b : Addr} {ws : List Addr} {C : String} {n : Nat} {a0 : Array Value} (E : Exa Z h b C) (hn : C ≠ "java/lang/String") (wi : (Jvm.Cond.instantiable C n).before a0 Z = true) (r : own_Off Z h ws) : own_Off Z h (b :: ws) := fun x q => (List.mem_cons.mp q).elim (fun u => u ▸ ⟨C, n, a0, E, hn, wi⟩) (r x)
theorem own_Str.keepO {Z : State} {h h' : Heap} {a : Addr} {cs : List Int32} {ws : List Addr} (F : own_Str Z h a cs) (K : Keep h h' ws) (O : own_Off Z h ws) : own_Str Z h' a cs := by
  obtain ⟨E, C, ⟨t, k, V, A⟩, r⟩ := F
  have na : a ∉ ws := fun q => by
    obtain ⟨D, n, a0, E', hn, wi⟩ := O a q
    exact Exa.ne E' E hn rfl
  have nt : t ∉ ws := fun q => by
    obtain ⟨D, n, a0, E', hn, wi⟩ := O t q
    exact Exa.neArv E' A wi rfl
  exact ⟨E.keep K, C.keep K na, ⟨t, k, V.keep K na, A.keep K nt⟩, r⟩
theorem own_up {cs : List Int32} (h : ∀ c ∈ cs, ¬ c < 0 ∧ ¬ (255 : Int32) < c) : ∀ c ∈ cs, ¬ c < 0 ∧ ¬ (65535 : Int32) < c := fun c hc => ⟨(h c hc).1, fun q => (h c hc).2 (by rw [Int32.lt_iff_toInt_lt] at q ⊢; have e1 : (65535 : Int32).toInt = 65535 := rfl; have e2 : (255 : Int32).toInt = 255 := rfl; omega)⟩
theorem own_255 {z : Int32} (h : ¬ z < 0 ∧ ¬ (255 : Int32) < z) : ∃ k : Fin 256, z = Int32.ofNat k.val := by
  obtain ⟨h1, h2⟩ := h
  rw [Int32.lt_iff_toInt_lt] at h1 h2
  have e1 : (0 : Int32).toInt = 0 := rfl
  have e2 : (255 : Int32).toInt = 255 := rfl
  refine ⟨⟨z.toInt.toNat, by omega⟩, ?_⟩
  apply Int32.toInt_inj.mp
  rw [Int32.toInt_ofNat_small (by show z.toInt.toNat < _; omega)]
  show _ = ((z.toInt.toNat : Nat) : Int)
  omega
theorem own_nar {z : Int32} (h : ¬ z < 0 ∧ ¬ (255 : Int32) < z) : nar .char z = z := by
  obtain ⟨k, rfl⟩ := own_255 h
  exact (by decide +kernel : ∀ k : Fin 256, nar .char (Int32.ofNat k.val) = Int32.ofNat k.val) k
theorem own_narV {z : Int32} (h : ¬ z < 0 ∧ ¬ (255 : Int32) < z) : narrow .char (.int z) = .int z := congrArg Value.int (own_nar h)

theorem own_EW {Z : State} {a0 : Array Value} (hw : ∀ d ∈ tables_1, d.before a0 Z = true) : EW Z a0 consts_1 := (EW.cons (own_w hw 44 rfl) (by decide) (EW.cons (own_w hw 78 rfl) (by decide) (EW.cons (own_w hw 100 rfl) (by decide) EW.nil)))
theorem own_CHstay {Z s : State} {a0 : Array Value} {EL : List (String × Nat)} {h : Heap} {vm0 vm1 : Vm} (H : CHv Z EL vm0 h) (hZ : Z.Warmed39 vm0) (w : EW Z a0 EL) (hW : (s.setVm vm0).WarmedH vm1) : CHv Z EL vm1 h :=
  (CHv.later (h' := h) hZ (hW := (show (Wst Z vm0 h).Warmed39 vm1 from hW.wide)) w ⟨Nat.le_refl _, fun _ _ q => q⟩ (Or.inl hW.interned_eq) H).1
theorem own_Sfstay {Z s : State} {a0 : Array Value} {EL : List (String × Nat)} {h : Heap} {vm0 vm1 : Vm} {x : Addr} (H : CHv Z EL vm0 h) (hZ : Z.Warmed39 vm0) (w : EW Z a0 EL) (hW : (s.setVm vm0).WarmedH vm1) (hx : x < h.size) (S : Safe Z EL vm0 h x) : Safe Z EL vm1 h x := fun B =>
  ((CHv.later (h' := h) hZ (hW := (show (Wst Z vm0 h).Warmed39 vm1 from hW.wide)) w ⟨Nat.le_refl _, fun _ _ q => q⟩ (Or.inl hW.interned_eq) H).2 x B).elim S fun q => absurd hx (Nat.not_lt.mpr q)
theorem own_SfArv {Z : State} {EL : List (String × Nat)} {vm : Vm} {h : Heap} {a : Addr} {k : ClassId} {ty : FieldType} {z : Int32} {vs : List Value} {d : Value} (hal : Z.vm.Alike vm) (A : Arv Z h a k ty z vs d) (ht : ty ≠ .byte) : Safe Z EL vm h a := by
  obtain ⟨c, A, -⟩ := A
  exact Safe.arr hal A ht

theorem own_chars (x : Int32) : ¬ nar .char ((x &&& (255 : Int32)).toUInt32.toUInt16.toUInt32.toInt32) < 0 ∧ ¬ (255 : Int32) < nar .char ((x &&& (255 : Int32)).toUInt32.toUInt16.toUInt32.toInt32) := by
  have t : ∀ k : Fin 256, ¬ nar .char ((Int32.ofNat k.val).toUInt32.toUInt16.toUInt32.toInt32) < 0 ∧ ¬ (255 : Int32) < nar .char ((Int32.ofNat k.val).toUInt32.toUInt16.toUInt32.toInt32) := by decide +kernel
  have h : (x &&& 255).toBitVec.toNat < 256 := by
    simp only [Int32.toBitVec_and, BitVec.toNat_and]
    exact Nat.lt_succ_of_le Nat.and_le_right
  have e : (x &&& 255) = Int32.ofNat (x &&& 255).toBitVec.toNat := by
    apply Int32.toBitVec_inj.mp
    show _ = BitVec.ofNat 32 _
    rw [BitVec.ofNat_toNat]; simp
  rw [e]
  exact t ⟨_, h⟩
theorem own_byte (x : Int32) : ¬ ((255 : Int32) < ((x &&& (255 : Int32)).toUInt32.toUInt16.toUInt32.toInt32)) := by
  have t : ∀ k : Fin 256, ¬ (255 : Int32) < ((Int32.ofNat k.val).toUInt32.toUInt16.toUInt32.toInt32) := by decide +kernel
  have h : (x &&& 255).toBitVec.toNat < 256 := by
    simp only [Int32.toBitVec_and, BitVec.toNat_and]
    exact Nat.lt_succ_of_le Nat.and_le_right
  have e : (x &&& 255) = Int32.ofNat (x &&& 255).toBitVec.toNat := by
    apply Int32.toBitVec_inj.mp
    show _ = BitVec.ofNat 32 _
    rw [BitVec.ofNat_toNat]; simp
  rw [e]
  exact t ⟨_, h⟩

theorem own_and7 (x : Int32) : x &&& 7 = 0 ∨ x &&& 7 = 1 ∨ x &&& 7 = 2 ∨ x &&& 7 = 3 ∨ x &&& 7 = 4 ∨ x &&& 7 = 5 ∨ x &&& 7 = 6 ∨ x &&& 7 = 7 := by
  have t : ∀ k : Fin 8, Int32.ofNat k.val = 0 ∨ Int32.ofNat k.val = 1 ∨ Int32.ofNat k.val = 2 ∨ Int32.ofNat k.val = 3 ∨ Int32.ofNat k.val = 4 ∨ Int32.ofNat k.val = 5 ∨ Int32.ofNat k.val = 6 ∨ Int32.ofNat k.val = 7 := by decide +kernel
  have h : (x &&& 7).toBitVec.toNat < 8 := by
    simp only [Int32.toBitVec_and, BitVec.toNat_and]
    exact Nat.lt_succ_of_le Nat.and_le_right
  have e : (x &&& 7) = Int32.ofNat (x &&& 7).toBitVec.toNat := by
    apply Int32.toBitVec_inj.mp
    show _ = BitVec.ofNat 32 _
    rw [BitVec.ofNat_toNat]; simp
  rw [e]
  exact t ⟨_, h⟩
def own_at (bs : List Int32) (i : Nat) : Prop := i + 3 ≤ bs.length ∧ bs.getD i 0 = 64 ∧ bs.getD (i + 1) 0 = 45 ∧ bs.getD (i + 2) 0 = 64
/-- the first place of the three signs, or -1 -/
def own_Ix (bs : List Int32) (z : Int32) : Prop := (z = -1 ∧ ∀ j, ¬ own_at bs j) ∨ ∃ i, z = Int32.ofNat i ∧ own_at bs i ∧ ∀ j, j < i → ¬ own_at bs j
theorem own_toInt {i : Nat} (h : i < 2 ^ 31) : (Int32.ofNat i).toInt = i := Int32.toInt_ofNat_small h
theorem own_clamp {i : Nat} (h : i < 2 ^ 31) : (Int32.ofNat i).toNatClampNeg = i := by
  show (Int32.ofNat i).toInt.toNat = i
  rw [own_toInt h]; omega
theorem own_lt {i j : Nat} (hi : i < 2 ^ 31) (hj : j < 2 ^ 31) : Int32.ofNat i < Int32.ofNat j ↔ i < j := by
  rw [Int32.lt_iff_toInt_lt, own_toInt hi, own_toInt hj]; omega
theorem own_eq {i j : Nat} (hi : i < 2 ^ 31) (hj : j < 2 ^ 31) : Int32.ofNat i = Int32.ofNat j ↔ i = j := by
  constructor
  · intro h
    have := congrArg Int32.toInt h
    rw [own_toInt hi, own_toInt hj] at this; omega
  · rintro rfl; rfl
theorem own_nn {i : Nat} (h : i < 2 ^ 31) : ¬ Int32.ofNat i < 0 := fun q => by
  have := (own_lt (i := i) (j := 0) h (by decide)).mp q
  omega
theorem own_add (i k : Nat) : Int32.ofNat i + Int32.ofNat k = Int32.ofNat (i + k) := (Int32.ofNat_add i k).symm
theorem own_succ (i : Nat) : Int32.ofNat i + (1 : Int32) = Int32.ofNat (i + 1) := own_add i 1
theorem own_sub {i k : Nat} (h : k ≤ i) : Int32.ofNat i - Int32.ofNat k = Int32.ofNat (i - k) := by
  obtain ⟨d, rfl⟩ := Nat.le.dest h
  rw [← own_add, Nat.add_sub_cancel_left, Int32.add_comm, Int32.add_sub_cancel]
theorem own_end (i : Nat) : Int32.ofNat (i + 1) + (3 : Int32) - (1 : Int32) = Int32.ofNat (i + 3) := by
  have h1 : Int32.ofNat (i + 1) + (3 : Int32) = Int32.ofNat (i + 1 + 3) := own_add (i + 1) 3
  have h2 : Int32.ofNat (i + 1 + 3) - (1 : Int32) = Int32.ofNat (i + 1 + 3 - 1) := own_sub (i := i + 1 + 3) (k := 1) (by omega)
  rw [h1, h2]; exact congrArg Int32.ofNat (by omega)
theorem own_inbs {c : Cell} {n i : Nat} (S : c.slots.size = (Int32.ofNat n).toNatClampNeg) (hn : n < 2 ^ 31) (hi : i < n) : ¬ (Int32.ofNat i < 0 ∨ c.slots.size ≤ (Int32.ofNat i).toNatClampNeg) := by
  rw [S, own_clamp hn, own_clamp (Nat.lt_trans hi hn)]
  rintro (q | q)
  · exact own_nn (Nat.lt_trans hi hn) q
  · omega
theorem own_getD {bs : List Int32} {i : Nat} (h : i < 2 ^ 31) : (bs.map Value.int).getD (Int32.ofNat i).toNatClampNeg (.int 0) = .int (bs.getD i 0) := by
  rw [own_clamp h]
  simp only [List.getD_eq_getElem?_getD, List.getElem?_map]
  cases bs[i]? <;> rfl
theorem own_clamp' : (0 : Int32).toNatClampNeg = 0 ∧ (1 : Int32).toNatClampNeg = 1 ∧ (2 : Int32).toNatClampNeg = 2 ∧ (3 : Int32).toNatClampNeg = 3 ∧ (4 : Int32).toNatClampNeg = 4 ∧ (5 : Int32).toNatClampNeg = 5 ∧ (6 : Int32).toNatClampNeg = 6 := by decide
theorem own_cp {bs : List Int32} {i : Nat} (h : i ≤ bs.length) (hl : bs.length ≤ 6) : (List.replicate i (Value.int 0)).take ((0 : Int32).toNatClampNeg) ++ ((List.range (Int32.ofNat i).toNatClampNeg).map fun j => (bs.map Value.int).getD ((0 : Int32).toNatClampNeg + j) (.int 0)) ++ (List.replicate i (Value.int 0)).drop ((0 : Int32).toNatClampNeg + (Int32.ofNat i).toNatClampNeg) = (bs.take i).map Value.int := by
  rw [own_clamp'.1, own_clamp (by omega)]
  simp only [List.take_zero, List.nil_append, Nat.zero_add, List.drop_replicate, Nat.sub_self, List.replicate_zero, List.append_nil]
  apply List.ext_getElem?
  intro j
  by_cases hj : j < i
  · have hb : j < bs.length := by omega
    simp [hj, hb, List.getElem?_range, List.getElem?_take]
  · simp [hj, List.getElem?_range, List.getElem?_take]

theorem own_chars' (x : Int32) : ¬ ((x &&& (255 : Int32)).toUInt32.toUInt16.toUInt32.toInt32) < 0 ∧ ¬ (255 : Int32) < ((x &&& (255 : Int32)).toUInt32.toUInt16.toUInt32.toInt32) := by
  have t : ∀ k : Fin 256, ¬ ((Int32.ofNat k.val).toUInt32.toUInt16.toUInt32.toInt32) < 0 ∧ ¬ (255 : Int32) < ((Int32.ofNat k.val).toUInt32.toUInt16.toUInt32.toInt32) := by decide +kernel
  have h : (x &&& 255).toBitVec.toNat < 256 := by
    simp only [Int32.toBitVec_and, BitVec.toNat_and]
    exact Nat.lt_succ_of_le Nat.and_le_right
  have e : (x &&& 255) = Int32.ofNat (x &&& 255).toBitVec.toNat := by
    apply Int32.toBitVec_inj.mp
    show _ = BitVec.ofNat 32 _
    rw [BitVec.ofNat_toNat]; simp
  rw [e]
  exact t ⟨_, h⟩

theorem d1_0 : decode method_2_code 0 = .ok (.iload_n 0, 1) := by decide +kernel
theorem d1_1 : decode method_2_code 1 = .ok (.iconst 3, 1) := by decide +kernel
theorem d1_2 : decode method_2_code 2 = .ok (.iand, 1) := by decide +kernel
theorem d1_3 : decode method_2_code 3 = .ok (.istore_n 1, 1) := by decide +kernel
theorem d1_4 : decode method_2_code 4 = .ok (.iload_n 1, 1) := by decide +kernel
theorem d1_5 : decode method_2_code 5 = .ok (.ifCond .ne 6, 3) := by decide +kernel
theorem d1_8 : decode method_2_code 8 = .ok (.bipush 64, 2) := by decide +kernel
theorem d1_10 : decode method_2_code 10 = .ok (.ireturn, 1) := by decide +kernel
theorem d1_11 : decode method_2_code 11 = .ok (.iload_n 1, 1) := by decide +kernel
theorem d1_12 : decode method_2_code 12 = .ok (.iconst 1, 1) := by decide +kernel
theorem d1_13 : decode method_2_code 13 = .ok (.if_icmp .ne 6, 3) := by decide +kernel
theorem d1_16 : decode method_2_code 16 = .ok (.bipush 45, 2) := by decide +kernel
theorem d1_18 : decode method_2_code 18 = .ok (.ireturn, 1) := by decide +kernel
theorem d1_19 : decode method_2_code 19 = .ok (.iload_n 0, 1) := by decide +kernel
theorem d1_20 : decode method_2_code 20 = .ok (.iconst 2, 1) := by decide +kernel
theorem d1_21 : decode method_2_code 21 = .ok (.iushr, 1) := by decide +kernel
theorem d1_22 : decode method_2_code 22 = .ok (.sipush 255, 3) := by decide +kernel
theorem d1_25 : decode method_2_code 25 = .ok (.iand, 1) := by decide +kernel
theorem d1_26 : decode method_2_code 26 = .ok (.i2c, 1) := by decide +kernel
theorem d1_27 : decode method_2_code 27 = .ok (.ireturn, 1) := by decide +kernel
theorem pn_com_example_hollow_crown_hollowcrown_instance_InstanceIdIpOfPinLaw : plainName "com/example/hollow_crown/hollowcrown/instance/InstanceIdIpOfPinLaw" = true := by first | (simp [plainName, overriddenIn]; done) | decide +kernel
theorem ef_draw (m : MethodId) (p1 : Int32) : entryFrame m #[(.int p1)] 2 = mkF m 0 #[.val (.int p1), .unset] [] := by first | (simp [entryFrame, mkF, argsToLocals, Value.category]; done) | rfl
def Qdraw (Z : State) (p1 : Int32) (h0 : Heap) (n0 : Nat) (v : Option Value) (h : Heap) (L : List Loc) : Prop := ∃ z : Int32, v = some (.int z) ∧ Fr n0 L ∧ h = h0 ∧ (¬ z < 0 ∧ ¬ (255 : Int32) < z)
set_option maxRecDepth 65536 in
set_option maxHeartbeats 40000000 in
theorem rmdraw (l : Launch) (Z : State) (a0 : Array Value) (hw : ∀ d ∈ tables_1, d.before a0 Z = true) (ws : List Jvm.Cond) (p1 : Int32) (h0 : Heap) (n0 : Nat) (Z0 : n0 ≤ h0.size) :
    MetFree l (⟨"com/example/hollow_crown/hollowcrown/instance/InstanceIdIpOfPinLaw", "draw", "(I)C"⟩ : MethodName) (head1 (Jvm.Cond.code (⟨"com/example/hollow_crown/hollowcrown/instance/InstanceIdIpOfPinLaw", "draw", "(I)C"⟩ : MethodName) method_2_code 2 (some .char) :: ws) ({ frames := 0, cells := 0, slots := 0, locals := 0 } : Room)) (fun a U => a = #[(.int p1)] ∧ Z.Warmed39 U.vm ∧ U.heap = h0) (fun _ _ _ _ _ => True) (fun _ U o U' => ∃ v L, o = .returned v ∧ Qdraw Z p1 h0 n0 v U'.heap L ∧ FrameEnd U o U' L ({ frames := 0, cells := 0, slots := 0, locals := 0 } : Room).cells ({ frames := 0, cells := 0, slots := 0, locals := 0 } : Room).slots) := by
  refine MetFree.of_bodySF (plainFor_of_name pn_com_example_hollow_crown_hollowcrown_instance_InstanceIdIpOfPinLaw) hisR ?_
  intro p e s m args below meth c s₁ Bd hml0 hP hK
  obtain ⟨rfl, hZ, hH0⟩ := hP
  have hx := Bd.exec
  have hby := Bd.bytes
  have hml : c.maxLocals = 2 := hml0
  have hown : s.vm.findClass "com/example/hollow_crown/hollowcrown/instance/InstanceIdIpOfPinLaw" = some m.cls := findClass_of_methodNamed Bd.named
  have hnm := (name_of_methodNamed Bd.named Bd.method).1
  have X0 : Stand p l e ({ frames := 0, cells := 0, slots := 0, locals := 0 } : Room) s m #[(.int p1)] below meth c s₁ [] 0 0 := Stand.of_body Bd
  have e0 : s₁.heap = h0 := by rw [← hH0, Bd.state]; rfl
  have N0 := Fr.nil n0
  refine own_cast (ef_draw m p1) ?_
  show own_Go p e below (fun o U' => ∃ v L, o = .returned v ∧ Qdraw Z p1 h0 n0 v U'.heap L ∧ FrameEnd s o U' L ({ frames := 0, cells := 0, slots := 0, locals := 0 } : Room).cells ({ frames := 0, cells := 0, slots := 0, locals := 0 } : Room).slots) (s₁.setTop (mkF m 0 #[.val (.int p1), .unset] []))
  refine own_via (fun _ => XS.iloadN X0.here hx rfl (hb hby d1_0) rfl) ?_
  show own_Go p e below _ (s₁.setTop (mkF m 1 #[.val (.int p1), .unset] [(.int p1)]))
  refine own_via (fun _ => XS.iconst X0.here hx rfl (hb hby d1_1)) ?_
  show own_Go p e below _ (s₁.setTop (mkF m 2 #[.val (.int p1), .unset] [(.int (3 : Int32)), (.int p1)]))
  refine own_via (fun _ => XS.iand X0.here hx rfl (hb hby d1_2) rfl) ?_
  show own_Go p e below _ (s₁.setTop (mkF m 3 #[.val (.int p1), .unset] [(.int (p1 &&& (3 : Int32)))]))
  refine own_via (fun _ => XS.istoreN X0.here hx rfl (hb hby d1_3) rfl (l' := #[.val (.int p1), .val (.int (p1 &&& (3 : Int32)))]) rfl) ?_
  show own_Go p e below _ (s₁.setTop (mkF m 4 #[.val (.int p1), .val (.int (p1 &&& (3 : Int32)))] []))
  refine own_via (fun _ => XS.iloadN X0.here hx rfl (hb hby d1_4) rfl) ?_
  show own_Go p e below _ (s₁.setTop (mkF m 5 #[.val (.int p1), .val (.int (p1 &&& (3 : Int32)))] [(.int (p1 &&& (3 : Int32)))]))
  by_cases h1 : (p1 &&& (3 : Int32)) = (0 : Int32)
  · refine own_via (fun _ => XS.ifNo X0.here hx rfl (hb hby d1_5) rfl ((if0 _ _).trans (teq (h1 : (p1 &&& (3 : Int32)) = (0 : Int32))).2)) ?_
    show own_Go p e below _ (s₁.setTop (mkF m 8 #[.val (.int p1), .val (.int (p1 &&& (3 : Int32)))] []))
    refine own_via (fun _ => XS.bipush X0.here hx rfl (hb hby d1_8)) ?_
    show own_Go p e below _ (s₁.setTop (mkF m 10 #[.val (.int p1), .val (.int (p1 &&& (3 : Int32)))] [(.int (64 : Int32))]))
    exact own_retv X0 Bd.notSynchronized hx Bd.returns rfl (Or.inl ⟨rfl, (by simp), _, rfl⟩) (hb hby d1_10) (by decide) (by decide) (by rw [e0]; exact ⟨(64 : Int32), rfl, N0, rfl, (by decide)⟩)
  · refine own_via (fun _ => XS.ifYes X0.here hx rfl (pc0 := 5) (pc' := 11) rfl (hb hby d1_5) rfl ((if0 _ _).trans (feq (h1 : ¬ ((p1 &&& (3 : Int32)) = (0 : Int32)))).2) (by decide) (by decide)) ?_
    show own_Go p e below _ (s₁.setTop (mkF m 11 #[.val (.int p1), .val (.int (p1 &&& (3 : Int32)))] []))
    refine own_via (fun _ => XS.iloadN X0.here hx rfl (hb hby d1_11) rfl) ?_
    show own_Go p e below _ (s₁.setTop (mkF m 12 #[.val (.int p1), .val (.int (p1 &&& (3 : Int32)))] [(.int (p1 &&& (3 : Int32)))]))
    refine own_via (fun _ => XS.iconst X0.here hx rfl (hb hby d1_12)) ?_
    show own_Go p e below _ (s₁.setTop (mkF m 13 #[.val (.int p1), .val (.int (p1 &&& (3 : Int32)))] [(.int (1 : Int32)), (.int (p1 &&& (3 : Int32)))]))
    by_cases h2 : (p1 &&& (3 : Int32)) = (1 : Int32)
    · refine own_via (fun _ => XS.icmpNo X0.here hx rfl (hb hby d1_13) rfl (teq (h2 : (p1 &&& (3 : Int32)) = (1 : Int32))).2) ?_
      show own_Go p e below _ (s₁.setTop (mkF m 16 #[.val (.int p1), .val (.int (p1 &&& (3 : Int32)))] []))
      refine own_via (fun _ => XS.bipush X0.here hx rfl (hb hby d1_16)) ?_
      show own_Go p e below _ (s₁.setTop (mkF m 18 #[.val (.int p1), .val (.int (p1 &&& (3 : Int32)))] [(.int (45 : Int32))]))
      exact own_retv X0 Bd.notSynchronized hx Bd.returns rfl (Or.inl ⟨rfl, (by simp), _, rfl⟩) (hb hby d1_18) (by decide) (by decide) (by rw [e0]; exact ⟨(45 : Int32), rfl, N0, rfl, (by decide)⟩)
    · refine own_via (fun _ => XS.icmpYes X0.here hx rfl (pc0 := 13) (pc' := 19) rfl (hb hby d1_13) rfl (feq (h2 : ¬ ((p1 &&& (3 : Int32)) = (1 : Int32)))).2 (by decide) (by decide)) ?_
      show own_Go p e below _ (s₁.setTop (mkF m 19 #[.val (.int p1), .val (.int (p1 &&& (3 : Int32)))] []))
      refine own_via (fun _ => XS.iloadN X0.here hx rfl (hb hby d1_19) rfl) ?_
      show own_Go p e below _ (s₁.setTop (mkF m 20 #[.val (.int p1), .val (.int (p1 &&& (3 : Int32)))] [(.int p1)]))
      refine own_via (fun _ => XS.iconst X0.here hx rfl (hb hby d1_20)) ?_
      show own_Go p e below _ (s₁.setTop (mkF m 21 #[.val (.int p1), .val (.int (p1 &&& (3 : Int32)))] [(.int (2 : Int32)), (.int p1)]))
      refine own_via (fun _ => XS.iushr X0.here hx rfl (hb hby d1_21) rfl) ?_
      show own_Go p e below _ (s₁.setTop (mkF m 22 #[.val (.int p1), .val (.int (p1 &&& (3 : Int32)))] [(.int ((p1.toUInt32 >>> ((2 : Int32) &&& 31).toUInt32).toInt32))]))
      refine own_via (fun _ => XS.sipush X0.here hx rfl (hb hby d1_22)) ?_
      show own_Go p e below _ (s₁.setTop (mkF m 25 #[.val (.int p1), .val (.int (p1 &&& (3 : Int32)))] [(.int (255 : Int32)), (.int ((p1.toUInt32 >>> ((2 : Int32) &&& 31).toUInt32).toInt32))]))
      refine own_via (fun _ => XS.iand X0.here hx rfl (hb hby d1_25) rfl) ?_
      show own_Go p e below _ (s₁.setTop (mkF m 26 #[.val (.int p1), .val (.int (p1 &&& (3 : Int32)))] [(.int (((p1.toUInt32 >>> ((2 : Int32) &&& 31).toUInt32).toInt32) &&& (255 : Int32)))]))
      refine own_via (fun _ => XS.i2c X0.here hx rfl (hb hby d1_26) rfl) ?_
      show own_Go p e below _ (s₁.setTop (mkF m 27 #[.val (.int p1), .val (.int (p1 &&& (3 : Int32)))] [(.int ((((p1.toUInt32 >>> ((2 : Int32) &&& 31).toUInt32).toInt32) &&& (255 : Int32)).toUInt32.toUInt16.toUInt32.toInt32))]))
      exact own_retv X0 Bd.notSynchronized hx Bd.returns (own_narV (own_chars' _)) (Or.inl ⟨rfl, (by simp), _, rfl⟩) (hb hby d1_27) (by decide) (by decide) (by rw [e0]; exact ⟨((((p1.toUInt32 >>> ((2 : Int32) &&& 31).toUInt32).toInt32) &&& (255 : Int32)).toUInt32.toUInt16.toUInt32.toInt32), rfl, N0, rfl, own_chars' _⟩)
theorem d4_0 : decode jdk_42_method_149_code 0 = .ok (.aload_n 0, 1) := by decide +kernel
theorem d4_1 : decode jdk_42_method_149_code 1 = .ok (.invokespecial 1, 3) := by decide +kernel
theorem d4_4 : decode jdk_42_method_149_code 4 = .ok (.iload_n 3, 1) := by decide +kernel
theorem d4_5 : decode jdk_42_method_149_code 5 = .ok (.ifCond .ne 22, 3) := by decide +kernel
theorem d4_8 : decode jdk_42_method_149_code 8 = .ok (.aload_n 0, 1) := by decide +kernel
theorem d4_9 : decode jdk_42_method_149_code 9 = .ok (.ldc 7, 2) := by decide +kernel
theorem d4_11 : decode jdk_42_method_149_code 11 = .ok (.getfield 9, 3) := by decide +kernel
theorem d4_14 : decode jdk_42_method_149_code 14 = .ok (.putfield 9, 3) := by decide +kernel
theorem d4_17 : decode jdk_42_method_149_code 17 = .ok (.aload_n 0, 1) := by decide +kernel
theorem d4_18 : decode jdk_42_method_149_code 18 = .ok (.ldc 7, 2) := by decide +kernel
theorem d4_20 : decode jdk_42_method_149_code 20 = .ok (.getfield 15, 3) := by decide +kernel
theorem d4_23 : decode jdk_42_method_149_code 23 = .ok (.putfield 15, 3) := by decide +kernel
theorem d4_26 : decode jdk_42_method_149_code 26 = .ok (.return_, 1) := by decide +kernel
theorem d4_27 : decode jdk_42_method_149_code 27 = .ok (.getstatic 38, 3) := by decide +kernel
theorem d4_30 : decode jdk_42_method_149_code 30 = .ok (.ifCond .eq 28, 3) := by decide +kernel
theorem d4_33 : decode jdk_42_method_149_code 33 = .ok (.aload_n 1, 1) := by decide +kernel
theorem d4_34 : decode jdk_42_method_149_code 34 = .ok (.iload_n 2, 1) := by decide +kernel
theorem d4_35 : decode jdk_42_method_149_code 35 = .ok (.iload_n 3, 1) := by decide +kernel
theorem d4_36 : decode jdk_42_method_149_code 36 = .ok (.invokestatic 177, 3) := by decide +kernel
theorem d4_39 : decode jdk_42_method_149_code 39 = .ok (.astore 5, 2) := by decide +kernel
theorem d4_41 : decode jdk_42_method_149_code 41 = .ok (.aload_n 0, 1) := by decide +kernel
theorem d4_42 : decode jdk_42_method_149_code 42 = .ok (.aload 5, 2) := by decide +kernel
theorem d4_44 : decode jdk_42_method_149_code 44 = .ok (.iload_n 3, 1) := by decide +kernel
theorem d4_45 : decode jdk_42_method_149_code 45 = .ok (.invokestatic 47, 3) := by decide +kernel
theorem d4_48 : decode jdk_42_method_149_code 48 = .ok (.putfield 15, 3) := by decide +kernel
theorem d4_51 : decode jdk_42_method_149_code 51 = .ok (.aload_n 0, 1) := by decide +kernel
theorem d4_52 : decode jdk_42_method_149_code 52 = .ok (.aload 5, 2) := by decide +kernel
theorem d4_54 : decode jdk_42_method_149_code 54 = .ok (.putfield 9, 3) := by decide +kernel
theorem d4_57 : decode jdk_42_method_149_code 57 = .ok (.return_, 1) := by decide +kernel
theorem d4_58 : decode jdk_42_method_149_code 58 = .ok (.aload_n 0, 1) := by decide +kernel
theorem d4_59 : decode jdk_42_method_149_code 59 = .ok (.iconst 1, 1) := by decide +kernel
theorem d4_60 : decode jdk_42_method_149_code 60 = .ok (.putfield 15, 3) := by decide +kernel
theorem d4_63 : decode jdk_42_method_149_code 63 = .ok (.aload_n 0, 1) := by decide +kernel
theorem d4_64 : decode jdk_42_method_149_code 64 = .ok (.aload_n 1, 1) := by decide +kernel
theorem d4_65 : decode jdk_42_method_149_code 65 = .ok (.iload_n 2, 1) := by decide +kernel
theorem d4_66 : decode jdk_42_method_149_code 66 = .ok (.iload_n 3, 1) := by decide +kernel
theorem d4_67 : decode jdk_42_method_149_code 67 = .ok (.invokestatic 180, 3) := by decide +kernel
theorem d4_70 : decode jdk_42_method_149_code 70 = .ok (.putfield 9, 3) := by decide +kernel
theorem d4_73 : decode jdk_42_method_149_code 73 = .ok (.return_, 1) := by decide +kernel
theorem pd_0 : parseMethodDescriptor "()V" = some ⟨[], none⟩ := by decide +kernel
theorem pd_1 : parseMethodDescriptor "([CII)[B" = some ⟨[(.array .char), .int, .int], some (.array .byte)⟩ := by decide +kernel
theorem pd_2 : parseMethodDescriptor "([BI)B" = some ⟨[(.array .byte), .int], some .byte⟩ := by decide +kernel
theorem pn_java_lang_String : plainName "java/lang/String" = true := by first | (simp [plainName, overriddenIn]; done) | decide +kernel
theorem ef_strV0 (m : MethodId) (a1 : Addr) (a2 : Addr) : entryFrame m #[(.ref a1), (.ref a2), (.int (0 : Int32)), (.int (0 : Int32)), .null] 6 = mkF m 0 #[.val (.ref a1), .val (.ref a2), .val (.int (0 : Int32)), .val (.int (0 : Int32)), .val .null, .unset] [] := by first | (simp [entryFrame, mkF, argsToLocals, Value.category]; done) | rfl
def QstrV0 (Z : State) (a1 : Addr) (a2 : Addr) (h0 : Heap) (n0 : Nat) (v : Option Value) (h : Heap) (L : List Loc) (vm : Vm) : Prop := v = none ∧ Fr n0 L ∧ Keep h0 h [a1] ∧ (own_Str Z h a1 []) ∧ (CHv Z consts_1 vm h)
set_option maxRecDepth 65536 in
set_option maxHeartbeats 40000000 in
theorem rmstrV0 (l : Launch) (Z : State) (a0 : Array Value) (hw : ∀ d ∈ tables_1, d.before a0 Z = true) (ws : List Jvm.Cond) (a1 : Addr) (a2 : Addr) (h0 : Heap) (n0 : Nat) (Z0 : n0 ≤ h0.size) (O0 : Old Z n0 h0) (E1 : Exa Z h0 a1 "java/lang/String") (F1 : Fld Z h0 a1 "java/lang/String" "value" "[B" .null) (F2 : Fld Z h0 a1 "java/lang/String" "coder" "B" (.int (0 : Int32))) (g1 : n0 ≤ a1) :
    MetFree l (⟨"java/lang/String", "<init>", "([CIILjava/lang/Void;)V"⟩ : MethodName) (head1 (Jvm.Cond.code (⟨"java/lang/String", "<init>", "([CIILjava/lang/Void;)V"⟩ : MethodName) jdk_42_method_149_code 6 none :: ws) ({ frames := 1, cells := 2, slots := 4, locals := 12 } : Room)) (fun a U => a = #[(.ref a1), (.ref a2), (.int (0 : Int32)), (.int (0 : Int32)), .null] ∧ Z.Warmed39 U.vm ∧ U.heap = h0 ∧ CHv Z consts_1 U.vm h0 ∧ Safe Z consts_1 U.vm h0 a1) (fun _ _ _ _ _ => True) (fun _ U o U' => ∃ v L, o = .returned v ∧ QstrV0 Z a1 a2 h0 n0 v U'.heap L U'.vm ∧ ReturnedEndW U o U' L ({ frames := 1, cells := 2, slots := 4, locals := 12 } : Room).cells ({ frames := 1, cells := 2, slots := 4, locals := 12 } : Room).slots) := by
  refine MetFree.of_bodySF (plainFor_of_name pn_java_lang_String) hisR ?_
  intro p e s m args below meth c s₁ Bd hml0 hP hK
  obtain ⟨rfl, hZ, hH0, J0⟩ := hP
  have hx := Bd.exec
  have hby := Bd.bytes
  have hml : c.maxLocals = 6 := hml0
  have hown : s.vm.findClass "java/lang/String" = some m.cls := findClass_of_methodNamed Bd.named
  have hnm := (name_of_methodNamed Bd.named Bd.method).1
  have X0 : Stand p l e ({ frames := 1, cells := 2, slots := 4, locals := 12 } : Room) (s.setVm s.vm) m #[(.ref a1), (.ref a2), (.int (0 : Int32)), (.int (0 : Int32)), .null] below meth c s₁ [] 0 0 := Stand.of_body Bd
  have hS0 : s.Since s.vm 0 := (State.WarmedH.refl s).since 0
  have e0 : s₁.heap = h0 := by rw [← hH0, Bd.state]; rfl
  have N0 := Fr.nil n0
  refine own_cast (ef_strV0 m a1 a2) ?_
  show own_Go p e below (fun o U' => ∃ v L, o = .returned v ∧ QstrV0 Z a1 a2 h0 n0 v U'.heap L U'.vm ∧ ReturnedEndW s o U' L ({ frames := 1, cells := 2, slots := 4, locals := 12 } : Room).cells ({ frames := 1, cells := 2, slots := 4, locals := 12 } : Room).slots) (s₁.setTop (mkF m 0 #[.val (.ref a1), .val (.ref a2), .val (.int (0 : Int32)), .val (.int (0 : Int32)), .val .null, .unset] []))
  obtain ⟨J0, sf_a1⟩ := J0
  refine own_via (fun _ => XS.aloadN X0.here hx rfl (hb hby d4_0) rfl rfl) ?_
  show own_Go p e below _ (s₁.setTop (mkF m 1 #[.val (.ref a1), .val (.ref a2), .val (.int (0 : Int32)), .val (.int (0 : Int32)), .val .null, .unset] [(.ref a1)]))
  obtain ⟨T_1, X_1, e_1, st_1⟩ := initO X0 hx hZ hown (own_w hw 18 rfl) (own_w hw 19 rfl) (own_w hw 20 rfl) e0 (g := (mkF m 1 #[.val (.ref a1), .val (.ref a2), .val (.int (0 : Int32)), .val (.int (0 : Int32)), .val .null, .unset] [(.ref a1)])) rfl (by rw [hml]; rfl) rfl (hb hby d4_1) (by decide) (W := 0) (by show 2 * 0 + _ ≤ _; exact Nat.le_of_eq rfl) (by decide)
  refine own_via st_1 ?_
  show own_Go p e below _ (T_1.setTop (mkF m 4 #[.val (.ref a1), .val (.ref a2), .val (.int (0 : Int32)), .val (.int (0 : Int32)), .val .null, .unset] []))
  refine own_via (fun _ => XS.iloadN X_1.here hx rfl (hb hby d4_4) rfl) ?_
  show own_Go p e below _ (T_1.setTop (mkF m 5 #[.val (.ref a1), .val (.ref a2), .val (.int (0 : Int32)), .val (.int (0 : Int32)), .val .null, .unset] [(.int (0 : Int32))]))
  refine own_via (fun _ => XS.ifNo X_1.here hx rfl (hb hby d4_5) rfl ((if0 _ _).trans (teq ((by decide) : (0 : Int32) = (0 : Int32))).2)) ?_
  show own_Go p e below _ (T_1.setTop (mkF m 8 #[.val (.ref a1), .val (.ref a2), .val (.int (0 : Int32)), .val (.int (0 : Int32)), .val .null, .unset] []))
  refine own_via (fun _ => XS.aloadN X_1.here hx rfl (hb hby d4_8) rfl rfl) ?_
  show own_Go p e below _ (T_1.setTop (mkF m 9 #[.val (.ref a1), .val (.ref a2), .val (.int (0 : Int32)), .val (.int (0 : Int32)), .val .null, .unset] [(.ref a1)]))
  obtain ⟨a_2, T_2, h_2, k_2, b_2, kk_2, X_2, e_2, E_2, hS_2, hk_2, hZ_2, ho_2, LE_2, LC_2, LV_2, LA_2, la_2, lb_2, CH_2, L_2, sf_2, st_2⟩ := ldcCH X_1 hx hZ hown (own_w hw 78 rfl) (own_wS hw) e_1 hS0 (Nat.zero_le _) (own_EW hw) (by decide) J0 (vs := ((([] : List Int32).map fun c => c.toInt8.toInt32).map Value.int)) (z := Int32.ofNat 0) ⟨by decide, by decide +kernel⟩ (by decide) rfl (g := (mkF m 9 #[.val (.ref a1), .val (.ref a2), .val (.int (0 : Int32)), .val (.int (0 : Int32)), .val .null, .unset] [(.ref a1)])) rfl (hb hby d4_9) (n := 0) (by decide) (by decide) (by decide) (by decide)
  have J_2 := CH_2.1
  have sf_2_a1 := CH_2.safe E1.lt sf_a1
  obtain ⟨nea_2_a1, neb_2_a1⟩ := sf_2 _ sf_2_a1
  refine own_via st_2 ?_
  show own_Go p e below _ (T_2.setTop (mkF m 11 #[.val (.ref a1), .val (.ref a2), .val (.int (0 : Int32)), .val (.int (0 : Int32)), .val .null, .unset] [(.ref a_2), (.ref a1)]))
  obtain ⟨T_3, X_3, e_3, st_3⟩ := getF X_2 hx hZ_2 ho_2 (host := "") (Or.inl (own_w hw 35 rfl)) Via.refl e_2 LV_2 (g := (mkF m 11 #[.val (.ref a1), .val (.ref a2), .val (.int (0 : Int32)), .val (.int (0 : Int32)), .val .null, .unset] [(.ref a_2), (.ref a1)])) rfl rfl (hb hby d4_11)
  refine own_via st_3 ?_
  show own_Go p e below _ (T_3.setTop (mkF m 14 #[.val (.ref a1), .val (.ref a2), .val (.int (0 : Int32)), .val (.int (0 : Int32)), .val .null, .unset] [(.ref b_2), (.ref a1)]))
  have K_4 : Keep h0 h_2 [] := (Keep.refl h0 []).ext E_2
  obtain ⟨T_5, h_5, X_5, e_5, W_5, st_5⟩ := putF X_3 hx hZ_2 ho_2 (host := "") (Or.inl (own_w hw 35 rfl)) Via.refl e_3 (F1.keep K_4 nin0) (E1.keep K_4) (Or.inr ⟨(own_w hw 36 rfl), rfl, hnm⟩) (own_w hw 9 rfl) (ty := (.array .byte)) (by decide) rfl rfl (g := (mkF m 14 #[.val (.ref a1), .val (.ref a2), .val (.int (0 : Int32)), .val (.int (0 : Int32)), .val .null, .unset] [(.ref b_2), (.ref a1)])) rfl rfl (hb hby d4_14)
  have F_6 : Fld Z h_5 a1 "java/lang/String" "coder" "B" (.int (0 : Int32)) := (F2.keep K_4 nin0).other W_5 (Or.inr (slot_ne (Or.inr (own_w hw 34 rfl)) (Or.inr (own_w hw 36 rfl)) (by decide) (t := .byte) (t' := (.array .byte)) (by decide) (by decide)))
  have F_7 : Fld Z h_5 a1 "java/lang/String" "value" "[B" (.ref b_2) := (F1.keep K_4 nin0).same W_5
  have N_5 := Fr.snoc X_5 N0 g1
  refine own_via st_5 ?_
  show own_Go p e below _ (T_5.setTop (mkF m 17 #[.val (.ref a1), .val (.ref a2), .val (.int (0 : Int32)), .val (.int (0 : Int32)), .val .null, .unset] []))
  refine own_via (fun _ => XS.aloadN X_5.here hx rfl (hb hby d4_17) rfl rfl) ?_
  show own_Go p e below _ (T_5.setTop (mkF m 18 #[.val (.ref a1), .val (.ref a2), .val (.int (0 : Int32)), .val (.int (0 : Int32)), .val .null, .unset] [(.ref a1)]))
  refine own_via (ldcAgain X_5 hx hZ_2 ho_2 (own_w hw 78 rfl) L_2 (g := (mkF m 18 #[.val (.ref a1), .val (.ref a2), .val (.int (0 : Int32)), .val (.int (0 : Int32)), .val .null, .unset] [(.ref a1)])) rfl (hb hby d4_18)) ?_
  show own_Go p e below _ (T_5.setTop (mkF m 20 #[.val (.ref a1), .val (.ref a2), .val (.int (0 : Int32)), .val (.int (0 : Int32)), .val .null, .unset] [(.ref a_2), (.ref a1)]))
  have K_8 : Keep h_2 h_5 [a1] := Keep.wr (ws := [a1]) (own_keep_mono (Keep.refl h_2 []) (by simp)) W_5 (Or.inl (List.mem_of_getElem? (i := 0) rfl))
  obtain ⟨T_9, X_9, e_9, st_9⟩ := getF X_5 hx hZ_2 ho_2 (host := "") (Or.inl (own_w hw 33 rfl)) Via.refl e_5 (LC_2.keep K_8 (ninS (Ne.symm nea_2_a1) nin0)) (g := (mkF m 20 #[.val (.ref a1), .val (.ref a2), .val (.int (0 : Int32)), .val (.int (0 : Int32)), .val .null, .unset] [(.ref a_2), (.ref a1)])) rfl rfl (hb hby d4_20)
  refine own_via st_9 ?_
  show own_Go p e below _ (T_9.setTop (mkF m 23 #[.val (.ref a1), .val (.ref a2), .val (.int (0 : Int32)), .val (.int (0 : Int32)), .val .null, .unset] [(.int (0 : Int32)), (.ref a1)]))
  have K_10 : Keep h0 h_5 [a1] := Keep.wr (ws := [a1]) (own_keep_mono K_4 (by simp)) W_5 (Or.inl (List.mem_of_getElem? (i := 0) rfl))
  obtain ⟨T_11, h_11, X_11, e_11, W_11, st_11⟩ := putFN X_9 hx hZ_2 ho_2 (own_w hw 33 rfl) Via.refl e_9 F_6 (E1.keep K_10) (Or.inr ⟨(own_w hw 34 rfl), rfl, hnm⟩) (own_w hw 9 rfl) (ty := .byte) (v' := (.int (0 : Int32))) (by decide) rfl rfl (g := (mkF m 23 #[.val (.ref a1), .val (.ref a2), .val (.int (0 : Int32)), .val (.int (0 : Int32)), .val .null, .unset] [(.int (0 : Int32)), (.ref a1)])) rfl rfl (hb hby d4_23)
  have F_12 : Fld Z h_11 a1 "java/lang/String" "value" "[B" (.ref b_2) := F_7.other W_11 (Or.inr (slot_ne (Or.inr (own_w hw 36 rfl)) (Or.inr (own_w hw 34 rfl)) (by decide) (t := (.array .byte)) (t' := .byte) (by decide) (by decide)))
  have F_13 : Fld Z h_11 a1 "java/lang/String" "coder" "B" (.int (0 : Int32)) := F_6.same W_11
  have N_11 := Fr.snoc X_11 N_5 g1
  refine own_via st_11 ?_
  show own_Go p e below _ (T_11.setTop (mkF m 26 #[.val (.ref a1), .val (.ref a2), .val (.int (0 : Int32)), .val (.int (0 : Int32)), .val .null, .unset] []))
  have K_14 : Keep h0 h_11 [a1] := Keep.wr (ws := [a1]) K_10 W_11 (Or.inl (List.mem_of_getElem? (i := 0) rfl))
  have K_15 : Keep h_2 h_11 [a1] := Keep.wr (ws := [a1]) K_8 W_11 (Or.inl (List.mem_of_getElem? (i := 0) rfl))
  exact own_ret0W X_11 hS_2 (by rw [e_11]; exact (Nat.le_trans hk_2 K_15.1)) Bd.notSynchronized hx Bd.returns (hb hby d4_26) (by decide) (by decide) (by rw [e_11]; exact ⟨rfl, N_11, K_14, ⟨(E1.keep K_14), F_13, ⟨b_2, kk_2, F_12, (LA_2.keep K_15 (ninS (Ne.symm neb_2_a1) nin0))⟩, by decide, by decide⟩, (own_CHstay (J_2.keep K_15 (allS sf_2_a1 all0)) hZ_2 (own_EW hw) X_11.warmed)⟩)
theorem d3_0 : decode jdk_42_method_3_code 0 = .ok (.aload_n 0, 1) := by decide +kernel
theorem d3_1 : decode jdk_42_method_3_code 1 = .ok (.aload_n 1, 1) := by decide +kernel
theorem d3_2 : decode jdk_42_method_3_code 2 = .ok (.iconst 0, 1) := by decide +kernel
theorem d3_3 : decode jdk_42_method_3_code 3 = .ok (.aload_n 1, 1) := by decide +kernel
theorem d3_4 : decode jdk_42_method_3_code 4 = .ok (.arraylength, 1) := by decide +kernel
theorem d3_5 : decode jdk_42_method_3_code 5 = .ok (.aconst_null, 1) := by decide +kernel
theorem d3_6 : decode jdk_42_method_3_code 6 = .ok (.invokespecial 27, 3) := by decide +kernel
theorem d3_9 : decode jdk_42_method_3_code 9 = .ok (.return_, 1) := by decide +kernel
theorem pd_3 : parseMethodDescriptor "([CIILjava/lang/Void;)V" = some ⟨[(.array .char), .int, .int, (.object "java/lang/Void")], none⟩ := by decide +kernel
theorem ef_strC0 (m : MethodId) (a1 : Addr) (a2 : Addr) : entryFrame m #[(.ref a1), (.ref a2)] 2 = mkF m 0 #[.val (.ref a1), .val (.ref a2)] [] := by first | (simp [entryFrame, mkF, argsToLocals, Value.category]; done) | rfl
def QstrC0 (Z : State) (a1 : Addr) (a2 : Addr) (kc : ClassId) (h0 : Heap) (n0 : Nat) (v : Option Value) (h : Heap) (L : List Loc) (vm : Vm) : Prop := v = none ∧ Fr n0 L ∧ Keep h0 h [a1] ∧ (own_Str Z h a1 []) ∧ (CHv Z consts_1 vm h)
set_option maxRecDepth 65536 in
set_option maxHeartbeats 40000000 in
theorem rmstrC0 (l : Launch) (Z : State) (a0 : Array Value) (hw : ∀ d ∈ tables_1, d.before a0 Z = true) (ws : List Jvm.Cond) (a1 : Addr) (a2 : Addr) (kc : ClassId) (h0 : Heap) (n0 : Nat) (Z0 : n0 ≤ h0.size) (O0 : Old Z n0 h0) (E1 : Exa Z h0 a1 "java/lang/String") (F1 : Fld Z h0 a1 "java/lang/String" "value" "[B" .null) (F2 : Fld Z h0 a1 "java/lang/String" "coder" "B" (.int (0 : Int32))) (g1 : n0 ≤ a1) (A2 : Arv Z h0 a2 kc .char (0 : Int32) [] (.int (0 : Int32))) :
    MetFree l (⟨"java/lang/String", "<init>", "([C)V"⟩ : MethodName) (head1 (Jvm.Cond.code (⟨"java/lang/String", "<init>", "([C)V"⟩ : MethodName) jdk_42_method_3_code 2 none :: ws) ({ frames := 2, cells := 2, slots := 4, locals := 29 } : Room)) (fun a U => a = #[(.ref a1), (.ref a2)] ∧ Z.Warmed39 U.vm ∧ U.heap = h0 ∧ CHv Z consts_1 U.vm h0 ∧ Safe Z consts_1 U.vm h0 a1) (fun _ _ _ _ _ => True) (fun _ U o U' => ∃ v L, o = .returned v ∧ QstrC0 Z a1 a2 kc h0 n0 v U'.heap L U'.vm ∧ ReturnedEndW U o U' L ({ frames := 2, cells := 2, slots := 4, locals := 29 } : Room).cells ({ frames := 2, cells := 2, slots := 4, locals := 29 } : Room).slots) := by
  refine MetFree.of_bodySF (plainFor_of_name pn_java_lang_String) hisR ?_
  intro p e s m args below meth c s₁ Bd hml0 hP hK
  obtain ⟨rfl, hZ, hH0, J0⟩ := hP
  have hx := Bd.exec
  have hby := Bd.bytes
  have hml : c.maxLocals = 2 := hml0
  have hown : s.vm.findClass "java/lang/String" = some m.cls := findClass_of_methodNamed Bd.named
  have hnm := (name_of_methodNamed Bd.named Bd.method).1
  have X0 : Stand p l e ({ frames := 2, cells := 2, slots := 4, locals := 29 } : Room) (s.setVm s.vm) m #[(.ref a1), (.ref a2)] below meth c s₁ [] 0 0 := Stand.of_body Bd
  have hS0 : s.Since s.vm 0 := (State.WarmedH.refl s).since 0
  have e0 : s₁.heap = h0 := by rw [← hH0, Bd.state]; rfl
  have N0 := Fr.nil n0
  refine own_cast (ef_strC0 m a1 a2) ?_
  show own_Go p e below (fun o U' => ∃ v L, o = .returned v ∧ QstrC0 Z a1 a2 kc h0 n0 v U'.heap L U'.vm ∧ ReturnedEndW s o U' L ({ frames := 2, cells := 2, slots := 4, locals := 29 } : Room).cells ({ frames := 2, cells := 2, slots := 4, locals := 29 } : Room).slots) (s₁.setTop (mkF m 0 #[.val (.ref a1), .val (.ref a2)] []))
  obtain ⟨J0, sf_a1⟩ := J0
  refine own_via (fun _ => XS.aloadN X0.here hx rfl (hb hby d3_0) rfl rfl) ?_
  show own_Go p e below _ (s₁.setTop (mkF m 1 #[.val (.ref a1), .val (.ref a2)] [(.ref a1)]))
  refine own_via (fun _ => XS.aloadN X0.here hx rfl (hb hby d3_1) rfl rfl) ?_
  show own_Go p e below _ (s₁.setTop (mkF m 2 #[.val (.ref a1), .val (.ref a2)] [(.ref a2), (.ref a1)]))
  refine own_via (fun _ => XS.iconst X0.here hx rfl (hb hby d3_2)) ?_
  show own_Go p e below _ (s₁.setTop (mkF m 3 #[.val (.ref a1), .val (.ref a2)] [(.int (0 : Int32)), (.ref a2), (.ref a1)]))
  refine own_via (fun _ => XS.aloadN X0.here hx rfl (hb hby d3_3) rfl rfl) ?_
  show own_Go p e below _ (s₁.setTop (mkF m 4 #[.val (.ref a1), .val (.ref a2)] [(.ref a2), (.int (0 : Int32)), (.ref a2), (.ref a1)]))
  obtain ⟨cl_1, Ar_1, q_1, S_1, M_1, H_1, G_1⟩ := (id A2)
  refine own_via (X0.arraylength hx (by rw [e0]; exact Ar_1.1) (State.isArrayOf_alike hZ.alike Ar_1.2.1) (g := (mkF m 4 #[.val (.ref a1), .val (.ref a2)] [(.ref a2), (.int (0 : Int32)), (.ref a2), (.ref a1)])) rfl rfl (hb hby d3_4)) ?_
  rw [len_of S_1 M_1]
  show own_Go p e below _ (s₁.setTop (mkF m 5 #[.val (.ref a1), .val (.ref a2)] [(.int (0 : Int32)), (.int (0 : Int32)), (.ref a2), (.ref a1)]))
  refine own_via (fun _ => XS.aconstNull X0.here hx rfl (hb hby d3_5)) ?_
  show own_Go p e below _ (s₁.setTop (mkF m 6 #[.val (.ref a1), .val (.ref a2)] [.null, (.int (0 : Int32)), (.int (0 : Int32)), (.ref a2), (.ref a1)]))
  obtain ⟨_, _, ⟨T_2, L_2, k_2, n_2⟩, -, Xc_2, hSc_2, hgc_2, ⟨Lc_2, hQ_2, l_2, y_2, z_2⟩, st_2⟩ := X0.specialBackS hx (y := (⟨"java/lang/String", "<init>", "([CIILjava/lang/Void;)V"⟩ : MethodName)) rfl hown (mvT hZ (own_w hw 14 rfl)) (mvT hZ (own_w hw 15 rfl)) (mvT hZ (own_w hw 17 rfl)) (by decide) (own_backS (J := fun vm_ => CHv Z consts_1 vm_ h0 ∧ Safe Z consts_1 vm_ h0 a1) (W := 0) (rmstrV0 l Z a0 hw [] a1 a2 h0 n0 Z0 O0 E1 F1 F2 g1) hZ (own_w hw 17 rfl) (own_w hw 10 rfl) (by decide) (by decide)) (g := (mkF m 6 #[.val (.ref a1), .val (.ref a2)] [.null, (.int (0 : Int32)), (.int (0 : Int32)), (.ref a2), (.ref a1)])) rfl (by rw [hml]; rfl) (Steps.refl _) (a := a1) (argsL := [(.ref a2), (.int (0 : Int32)), (.int (0 : Int32)), .null]) (rest := []) (lenOf pd_3 rfl) rfl (by show 2 * 0 + _ ≤ _; exact Nat.le_of_eq rfl) (hb hby d3_6) (fun _ hW1 => ⟨rfl, e0, ⟨(own_CHstay J0 hZ (own_EW hw) hW1), (own_Sfstay J0 hZ (own_EW hw) hW1 E1.lt sf_a1)⟩, (by decide : 0 + 2 ≤ _), (by decide : 0 + 4 ≤ _)⟩)
  dsimp only [Pt.U, Pt.locs, Pt.cells, Pt.slots] at Xc_2 hSc_2 hgc_2 l_2 y_2 z_2 st_2 hQ_2
  subst l_2 y_2 z_2
  obtain ⟨X_2, hS_2, hZ_2, ho_2⟩ := rebS hS0 (by rw [e0]; exact (Nat.zero_le _)) Xc_2 hSc_2 hgc_2 hZ hown
  obtain ⟨rfl, Nq_2, K_2q, q_2_0, J_2⟩ := hQ_2
  have N_2 := Fr.app N0 Nq_2
  refine own_via (fun _ k => st_2.trans k) ?_
  show own_Go p e below _ (T_2.setTop (mkF m 9 #[.val (.ref a1), .val (.ref a2)] []))
  have K_3 : Keep h0 T_2.heap [a1] := Keep.trans (ws := [a1]) (own_keep_mono (Keep.refl h0 []) (by simp)) K_2q (allS (Or.inl (List.mem_of_getElem? (i := 0) rfl)) all0)
  exact own_ret0W X_2 hS_2 (Nat.le_refl _) Bd.notSynchronized hx Bd.returns (hb hby d3_9) (by decide) (by decide) ⟨rfl, N_2, K_3, q_2_0, (own_CHstay J_2 hZ_2 (own_EW hw) X_2.warmed)⟩
theorem d2_0 : decode method_3_code 0 = .ok (.iload_n 0, 1) := by decide +kernel
theorem d2_1 : decode method_3_code 1 = .ok (.ifCond .gt 14, 3) := by decide +kernel
theorem d2_4 : decode method_3_code 4 = .ok (.new 7, 3) := by decide +kernel
theorem d2_7 : decode method_3_code 7 = .ok (.dup, 1) := by decide +kernel
theorem d2_8 : decode method_3_code 8 = .ok (.iconst 0, 1) := by decide +kernel
theorem d2_9 : decode method_3_code 9 = .ok (.newarray .char, 2) := by decide +kernel
theorem d2_11 : decode method_3_code 11 = .ok (.invokespecial 9, 3) := by decide +kernel
theorem d2_14 : decode method_3_code 14 = .ok (.areturn, 1) := by decide +kernel
theorem d2_15 : decode method_3_code 15 = .ok (.iload_n 0, 1) := by decide +kernel
theorem d2_16 : decode method_3_code 16 = .ok (.iconst 1, 1) := by decide +kernel
theorem d2_17 : decode method_3_code 17 = .ok (.if_icmp .ne 20, 3) := by decide +kernel
theorem d2_20 : decode method_3_code 20 = .ok (.new 7, 3) := by decide +kernel
theorem d2_23 : decode method_3_code 23 = .ok (.dup, 1) := by decide +kernel
theorem d2_24 : decode method_3_code 24 = .ok (.iconst 1, 1) := by decide +kernel
theorem d2_25 : decode method_3_code 25 = .ok (.newarray .char, 2) := by decide +kernel
theorem d2_27 : decode method_3_code 27 = .ok (.dup, 1) := by decide +kernel
theorem d2_28 : decode method_3_code 28 = .ok (.iconst 0, 1) := by decide +kernel
theorem d2_29 : decode method_3_code 29 = .ok (.aload_n 1, 1) := by decide +kernel
theorem d2_30 : decode method_3_code 30 = .ok (.iconst 0, 1) := by decide +kernel
theorem d2_31 : decode method_3_code 31 = .ok (.caload, 1) := by decide +kernel
theorem d2_32 : decode method_3_code 32 = .ok (.castore, 1) := by decide +kernel
theorem d2_33 : decode method_3_code 33 = .ok (.invokespecial 9, 3) := by decide +kernel
theorem d2_36 : decode method_3_code 36 = .ok (.areturn, 1) := by decide +kernel
theorem d2_37 : decode method_3_code 37 = .ok (.iload_n 0, 1) := by decide +kernel
theorem d2_38 : decode method_3_code 38 = .ok (.iconst 2, 1) := by decide +kernel
theorem d2_39 : decode method_3_code 39 = .ok (.if_icmp .ne 26, 3) := by decide +kernel
theorem d2_42 : decode method_3_code 42 = .ok (.new 7, 3) := by decide +kernel
theorem d2_45 : decode method_3_code 45 = .ok (.dup, 1) := by decide +kernel
theorem d2_46 : decode method_3_code 46 = .ok (.iconst 2, 1) := by decide +kernel
theorem d2_47 : decode method_3_code 47 = .ok (.newarray .char, 2) := by decide +kernel
theorem d2_49 : decode method_3_code 49 = .ok (.dup, 1) := by decide +kernel
theorem d2_50 : decode method_3_code 50 = .ok (.iconst 0, 1) := by decide +kernel
theorem d2_51 : decode method_3_code 51 = .ok (.aload_n 1, 1) := by decide +kernel
theorem d2_52 : decode method_3_code 52 = .ok (.iconst 0, 1) := by decide +kernel
theorem d2_53 : decode method_3_code 53 = .ok (.caload, 1) := by decide +kernel
theorem d2_54 : decode method_3_code 54 = .ok (.castore, 1) := by decide +kernel
theorem d2_55 : decode method_3_code 55 = .ok (.dup, 1) := by decide +kernel
theorem d2_56 : decode method_3_code 56 = .ok (.iconst 1, 1) := by decide +kernel
theorem d2_57 : decode method_3_code 57 = .ok (.aload_n 1, 1) := by decide +kernel
theorem d2_58 : decode method_3_code 58 = .ok (.iconst 1, 1) := by decide +kernel
theorem d2_59 : decode method_3_code 59 = .ok (.caload, 1) := by decide +kernel
theorem d2_60 : decode method_3_code 60 = .ok (.castore, 1) := by decide +kernel
theorem d2_61 : decode method_3_code 61 = .ok (.invokespecial 9, 3) := by decide +kernel
theorem d2_64 : decode method_3_code 64 = .ok (.areturn, 1) := by decide +kernel
theorem d2_65 : decode method_3_code 65 = .ok (.iload_n 0, 1) := by decide +kernel
theorem d2_66 : decode method_3_code 66 = .ok (.iconst 3, 1) := by decide +kernel
theorem d2_67 : decode method_3_code 67 = .ok (.if_icmp .ne 32, 3) := by decide +kernel
theorem d2_70 : decode method_3_code 70 = .ok (.new 7, 3) := by decide +kernel
theorem d2_73 : decode method_3_code 73 = .ok (.dup, 1) := by decide +kernel
theorem d2_74 : decode method_3_code 74 = .ok (.iconst 3, 1) := by decide +kernel
theorem d2_75 : decode method_3_code 75 = .ok (.newarray .char, 2) := by decide +kernel
theorem d2_77 : decode method_3_code 77 = .ok (.dup, 1) := by decide +kernel
theorem d2_78 : decode method_3_code 78 = .ok (.iconst 0, 1) := by decide +kernel
theorem d2_79 : decode method_3_code 79 = .ok (.aload_n 1, 1) := by decide +kernel
theorem d2_80 : decode method_3_code 80 = .ok (.iconst 0, 1) := by decide +kernel
theorem d2_81 : decode method_3_code 81 = .ok (.caload, 1) := by decide +kernel
theorem d2_82 : decode method_3_code 82 = .ok (.castore, 1) := by decide +kernel
theorem d2_83 : decode method_3_code 83 = .ok (.dup, 1) := by decide +kernel
theorem d2_84 : decode method_3_code 84 = .ok (.iconst 1, 1) := by decide +kernel
theorem d2_85 : decode method_3_code 85 = .ok (.aload_n 1, 1) := by decide +kernel
theorem d2_86 : decode method_3_code 86 = .ok (.iconst 1, 1) := by decide +kernel
theorem d2_87 : decode method_3_code 87 = .ok (.caload, 1) := by decide +kernel
theorem d2_88 : decode method_3_code 88 = .ok (.castore, 1) := by decide +kernel
theorem d2_89 : decode method_3_code 89 = .ok (.dup, 1) := by decide +kernel
theorem d2_90 : decode method_3_code 90 = .ok (.iconst 2, 1) := by decide +kernel
theorem d2_91 : decode method_3_code 91 = .ok (.aload_n 1, 1) := by decide +kernel
theorem d2_92 : decode method_3_code 92 = .ok (.iconst 2, 1) := by decide +kernel
theorem d2_93 : decode method_3_code 93 = .ok (.caload, 1) := by decide +kernel
theorem d2_94 : decode method_3_code 94 = .ok (.castore, 1) := by decide +kernel
theorem d2_95 : decode method_3_code 95 = .ok (.invokespecial 9, 3) := by decide +kernel
theorem d2_98 : decode method_3_code 98 = .ok (.areturn, 1) := by decide +kernel
theorem d2_99 : decode method_3_code 99 = .ok (.iload_n 0, 1) := by decide +kernel
theorem d2_100 : decode method_3_code 100 = .ok (.iconst 4, 1) := by decide +kernel
theorem d2_101 : decode method_3_code 101 = .ok (.if_icmp .ne 38, 3) := by decide +kernel
theorem d2_104 : decode method_3_code 104 = .ok (.new 7, 3) := by decide +kernel
theorem d2_107 : decode method_3_code 107 = .ok (.dup, 1) := by decide +kernel
theorem d2_108 : decode method_3_code 108 = .ok (.iconst 4, 1) := by decide +kernel
theorem d2_109 : decode method_3_code 109 = .ok (.newarray .char, 2) := by decide +kernel
theorem d2_111 : decode method_3_code 111 = .ok (.dup, 1) := by decide +kernel
theorem d2_112 : decode method_3_code 112 = .ok (.iconst 0, 1) := by decide +kernel
theorem d2_113 : decode method_3_code 113 = .ok (.aload_n 1, 1) := by decide +kernel
theorem d2_114 : decode method_3_code 114 = .ok (.iconst 0, 1) := by decide +kernel
theorem d2_115 : decode method_3_code 115 = .ok (.caload, 1) := by decide +kernel
theorem d2_116 : decode method_3_code 116 = .ok (.castore, 1) := by decide +kernel
theorem d2_117 : decode method_3_code 117 = .ok (.dup, 1) := by decide +kernel
theorem d2_118 : decode method_3_code 118 = .ok (.iconst 1, 1) := by decide +kernel
theorem d2_119 : decode method_3_code 119 = .ok (.aload_n 1, 1) := by decide +kernel
theorem d2_120 : decode method_3_code 120 = .ok (.iconst 1, 1) := by decide +kernel
theorem d2_121 : decode method_3_code 121 = .ok (.caload, 1) := by decide +kernel
theorem d2_122 : decode method_3_code 122 = .ok (.castore, 1) := by decide +kernel
theorem d2_123 : decode method_3_code 123 = .ok (.dup, 1) := by decide +kernel
theorem d2_124 : decode method_3_code 124 = .ok (.iconst 2, 1) := by decide +kernel
theorem d2_125 : decode method_3_code 125 = .ok (.aload_n 1, 1) := by decide +kernel
theorem d2_126 : decode method_3_code 126 = .ok (.iconst 2, 1) := by decide +kernel
theorem d2_127 : decode method_3_code 127 = .ok (.caload, 1) := by decide +kernel
theorem d2_128 : decode method_3_code 128 = .ok (.castore, 1) := by decide +kernel
theorem d2_129 : decode method_3_code 129 = .ok (.dup, 1) := by decide +kernel
theorem d2_130 : decode method_3_code 130 = .ok (.iconst 3, 1) := by decide +kernel
theorem d2_131 : decode method_3_code 131 = .ok (.aload_n 1, 1) := by decide +kernel
theorem d2_132 : decode method_3_code 132 = .ok (.iconst 3, 1) := by decide +kernel
theorem d2_133 : decode method_3_code 133 = .ok (.caload, 1) := by decide +kernel
theorem d2_134 : decode method_3_code 134 = .ok (.castore, 1) := by decide +kernel
theorem d2_135 : decode method_3_code 135 = .ok (.invokespecial 9, 3) := by decide +kernel
theorem d2_138 : decode method_3_code 138 = .ok (.areturn, 1) := by decide +kernel
theorem d2_139 : decode method_3_code 139 = .ok (.iload_n 0, 1) := by decide +kernel
theorem d2_140 : decode method_3_code 140 = .ok (.iconst 5, 1) := by decide +kernel
theorem d2_141 : decode method_3_code 141 = .ok (.if_icmp .ne 44, 3) := by decide +kernel
theorem d2_144 : decode method_3_code 144 = .ok (.new 7, 3) := by decide +kernel
theorem d2_147 : decode method_3_code 147 = .ok (.dup, 1) := by decide +kernel
theorem d2_148 : decode method_3_code 148 = .ok (.iconst 5, 1) := by decide +kernel
theorem d2_149 : decode method_3_code 149 = .ok (.newarray .char, 2) := by decide +kernel
theorem d2_151 : decode method_3_code 151 = .ok (.dup, 1) := by decide +kernel
theorem d2_152 : decode method_3_code 152 = .ok (.iconst 0, 1) := by decide +kernel
theorem d2_153 : decode method_3_code 153 = .ok (.aload_n 1, 1) := by decide +kernel
theorem d2_154 : decode method_3_code 154 = .ok (.iconst 0, 1) := by decide +kernel
theorem d2_155 : decode method_3_code 155 = .ok (.caload, 1) := by decide +kernel
theorem d2_156 : decode method_3_code 156 = .ok (.castore, 1) := by decide +kernel
theorem d2_157 : decode method_3_code 157 = .ok (.dup, 1) := by decide +kernel
theorem d2_158 : decode method_3_code 158 = .ok (.iconst 1, 1) := by decide +kernel
theorem d2_159 : decode method_3_code 159 = .ok (.aload_n 1, 1) := by decide +kernel
theorem d2_160 : decode method_3_code 160 = .ok (.iconst 1, 1) := by decide +kernel
theorem d2_161 : decode method_3_code 161 = .ok (.caload, 1) := by decide +kernel
theorem d2_162 : decode method_3_code 162 = .ok (.castore, 1) := by decide +kernel
theorem d2_163 : decode method_3_code 163 = .ok (.dup, 1) := by decide +kernel
theorem d2_164 : decode method_3_code 164 = .ok (.iconst 2, 1) := by decide +kernel
theorem d2_165 : decode method_3_code 165 = .ok (.aload_n 1, 1) := by decide +kernel
theorem d2_166 : decode method_3_code 166 = .ok (.iconst 2, 1) := by decide +kernel
theorem d2_167 : decode method_3_code 167 = .ok (.caload, 1) := by decide +kernel
theorem d2_168 : decode method_3_code 168 = .ok (.castore, 1) := by decide +kernel
theorem d2_169 : decode method_3_code 169 = .ok (.dup, 1) := by decide +kernel
theorem d2_170 : decode method_3_code 170 = .ok (.iconst 3, 1) := by decide +kernel
theorem d2_171 : decode method_3_code 171 = .ok (.aload_n 1, 1) := by decide +kernel
theorem d2_172 : decode method_3_code 172 = .ok (.iconst 3, 1) := by decide +kernel
theorem d2_173 : decode method_3_code 173 = .ok (.caload, 1) := by decide +kernel
theorem d2_174 : decode method_3_code 174 = .ok (.castore, 1) := by decide +kernel
theorem d2_175 : decode method_3_code 175 = .ok (.dup, 1) := by decide +kernel
theorem d2_176 : decode method_3_code 176 = .ok (.iconst 4, 1) := by decide +kernel
theorem d2_177 : decode method_3_code 177 = .ok (.aload_n 1, 1) := by decide +kernel
theorem d2_178 : decode method_3_code 178 = .ok (.iconst 4, 1) := by decide +kernel
theorem d2_179 : decode method_3_code 179 = .ok (.caload, 1) := by decide +kernel
theorem d2_180 : decode method_3_code 180 = .ok (.castore, 1) := by decide +kernel
theorem d2_181 : decode method_3_code 181 = .ok (.invokespecial 9, 3) := by decide +kernel
theorem d2_184 : decode method_3_code 184 = .ok (.areturn, 1) := by decide +kernel
theorem d2_185 : decode method_3_code 185 = .ok (.new 7, 3) := by decide +kernel
theorem d2_188 : decode method_3_code 188 = .ok (.dup, 1) := by decide +kernel
theorem d2_189 : decode method_3_code 189 = .ok (.bipush 6, 2) := by decide +kernel
theorem d2_191 : decode method_3_code 191 = .ok (.newarray .char, 2) := by decide +kernel
theorem d2_193 : decode method_3_code 193 = .ok (.dup, 1) := by decide +kernel
theorem d2_194 : decode method_3_code 194 = .ok (.iconst 0, 1) := by decide +kernel
theorem d2_195 : decode method_3_code 195 = .ok (.aload_n 1, 1) := by decide +kernel
theorem d2_196 : decode method_3_code 196 = .ok (.iconst 0, 1) := by decide +kernel
theorem d2_197 : decode method_3_code 197 = .ok (.caload, 1) := by decide +kernel
theorem d2_198 : decode method_3_code 198 = .ok (.castore, 1) := by decide +kernel
theorem d2_199 : decode method_3_code 199 = .ok (.dup, 1) := by decide +kernel
theorem d2_200 : decode method_3_code 200 = .ok (.iconst 1, 1) := by decide +kernel
theorem d2_201 : decode method_3_code 201 = .ok (.aload_n 1, 1) := by decide +kernel
theorem d2_202 : decode method_3_code 202 = .ok (.iconst 1, 1) := by decide +kernel
theorem d2_203 : decode method_3_code 203 = .ok (.caload, 1) := by decide +kernel
theorem d2_204 : decode method_3_code 204 = .ok (.castore, 1) := by decide +kernel
theorem d2_205 : decode method_3_code 205 = .ok (.dup, 1) := by decide +kernel
theorem d2_206 : decode method_3_code 206 = .ok (.iconst 2, 1) := by decide +kernel
theorem d2_207 : decode method_3_code 207 = .ok (.aload_n 1, 1) := by decide +kernel
theorem d2_208 : decode method_3_code 208 = .ok (.iconst 2, 1) := by decide +kernel
theorem d2_209 : decode method_3_code 209 = .ok (.caload, 1) := by decide +kernel
theorem d2_210 : decode method_3_code 210 = .ok (.castore, 1) := by decide +kernel
theorem d2_211 : decode method_3_code 211 = .ok (.dup, 1) := by decide +kernel
theorem d2_212 : decode method_3_code 212 = .ok (.iconst 3, 1) := by decide +kernel
theorem d2_213 : decode method_3_code 213 = .ok (.aload_n 1, 1) := by decide +kernel
theorem d2_214 : decode method_3_code 214 = .ok (.iconst 3, 1) := by decide +kernel
theorem d2_215 : decode method_3_code 215 = .ok (.caload, 1) := by decide +kernel
theorem d2_216 : decode method_3_code 216 = .ok (.castore, 1) := by decide +kernel
theorem d2_217 : decode method_3_code 217 = .ok (.dup, 1) := by decide +kernel
theorem d2_218 : decode method_3_code 218 = .ok (.iconst 4, 1) := by decide +kernel
theorem d2_219 : decode method_3_code 219 = .ok (.aload_n 1, 1) := by decide +kernel
theorem d2_220 : decode method_3_code 220 = .ok (.iconst 4, 1) := by decide +kernel
theorem d2_221 : decode method_3_code 221 = .ok (.caload, 1) := by decide +kernel
theorem d2_222 : decode method_3_code 222 = .ok (.castore, 1) := by decide +kernel
theorem d2_223 : decode method_3_code 223 = .ok (.dup, 1) := by decide +kernel
theorem d2_224 : decode method_3_code 224 = .ok (.iconst 5, 1) := by decide +kernel
theorem d2_225 : decode method_3_code 225 = .ok (.aload_n 1, 1) := by decide +kernel
theorem d2_226 : decode method_3_code 226 = .ok (.iconst 5, 1) := by decide +kernel
theorem d2_227 : decode method_3_code 227 = .ok (.caload, 1) := by decide +kernel
theorem d2_228 : decode method_3_code 228 = .ok (.castore, 1) := by decide +kernel
theorem d2_229 : decode method_3_code 229 = .ok (.invokespecial 9, 3) := by decide +kernel
theorem d2_232 : decode method_3_code 232 = .ok (.areturn, 1) := by decide +kernel
theorem pd_4 : parseMethodDescriptor "([C)V" = some ⟨[(.array .char)], none⟩ := by decide +kernel
theorem ef_mk (m : MethodId) (p1 : Int32) (a2 : Addr) : entryFrame m #[(.int p1), (.ref a2)] 2 = mkF m 0 #[.val (.int p1), .val (.ref a2)] [] := by first | (simp [entryFrame, mkF, argsToLocals, Value.category]; done) | rfl
def Qmk (Z : State) (p1 : Int32) (a2 : Addr) (kc : ClassId) (c0 : Int32) (c1 : Int32) (c2 : Int32) (c3 : Int32) (c4 : Int32) (c5 : Int32) (cs : Int32) (h0 : Heap) (n0 : Nat) (v : Option Value) (h : Heap) (L : List Loc) (vm : Vm) : Prop := ∃ r : Addr, v = some (.ref r) ∧ Fr n0 L ∧ Keep h0 h [] ∧ (h0.size ≤ r) ∧ (Exa Z h r "java/lang/String") ∧ (own_Str Z h r ([c0, c1, c2, c3, c4, c5].take p1.toNatClampNeg)) ∧ (CHv Z consts_1 vm h)
set_option maxRecDepth 65536 in
set_option maxHeartbeats 40000000 in
theorem rmmk (l : Launch) (Z : State) (a0 : Array Value) (hw : ∀ d ∈ tables_1, d.before a0 Z = true) (ws : List Jvm.Cond) (p1 : Int32) (a2 : Addr) (kc : ClassId) (c0 : Int32) (c1 : Int32) (c2 : Int32) (c3 : Int32) (c4 : Int32) (c5 : Int32) (cs : Int32) (h0 : Heap) (n0 : Nat) (Z0 : n0 ≤ h0.size) (O0 : Old Z n0 h0) (Scs : Sta Z Z.heap "java/lang/String" "COMPACT_STRINGS" "Z" (.int cs)) (hcs : ¬ (cs = (0 : Int32))) (A2 : Arv Z h0 a2 kc .char (6 : Int32) [(.int c0), (.int c1), (.int c2), (.int c3), (.int c4), (.int c5)] (.int (0 : Int32))) (hn : p1 = 0 ∨ p1 = 1 ∨ p1 = 2 ∨ p1 = 3 ∨ p1 = 4 ∨ p1 = 5 ∨ p1 = 6) (hb0 : ¬ c0 < 0 ∧ ¬ (255 : Int32) < c0) (hb1 : ¬ c1 < 0 ∧ ¬ (255 : Int32) < c1) (hb2 : ¬ c2 < 0 ∧ ¬ (255 : Int32) < c2) (hb3 : ¬ c3 < 0 ∧ ¬ (255 : Int32) < c3) (hb4 : ¬ c4 < 0 ∧ ¬ (255 : Int32) < c4) (hb5 : ¬ c5 < 0 ∧ ¬ (255 : Int32) < c5) :
    MetFree l (⟨"com/example/hollow_crown/hollowcrown/instance/InstanceIdIpOfPinLaw", "mk", "(I[C)Ljava/lang/String;"⟩ : MethodName) (head1 (Jvm.Cond.code (⟨"com/example/hollow_crown/hollowcrown/instance/InstanceIdIpOfPinLaw", "mk", "(I[C)Ljava/lang/String;"⟩ : MethodName) method_3_code 2 (some (.object "java/lang/String")) :: ws) ({ frames := 4, cells := 4, slots := 20, locals := 66 } : Room)) (fun a U => a = #[(.int p1), (.ref a2)] ∧ Z.Warmed39 U.vm ∧ U.heap = h0 ∧ CHv Z consts_1 U.vm h0) (fun _ _ _ _ _ => True) (fun _ U o U' => ∃ v L, o = .returned v ∧ Qmk Z p1 a2 kc c0 c1 c2 c3 c4 c5 cs h0 n0 v U'.heap L U'.vm ∧ ReturnedEndW U o U' L ({ frames := 4, cells := 4, slots := 20, locals := 66 } : Room).cells ({ frames := 4, cells := 4, slots := 20, locals := 66 } : Room).slots) := by
  refine MetFree.of_bodySF (plainFor_of_name pn_com_example_hollow_crown_hollowcrown_instance_InstanceIdIpOfPinLaw) hisR ?_
  intro p e s m args below meth c s₁ Bd hml0 hP hK
  obtain ⟨rfl, hZ, hH0, J0⟩ := hP
  have hx := Bd.exec
  have hby := Bd.bytes
  have hml : c.maxLocals = 2 := hml0
  have hown : s.vm.findClass "com/example/hollow_crown/hollowcrown/instance/InstanceIdIpOfPinLaw" = some m.cls := findClass_of_methodNamed Bd.named
  have hnm := (name_of_methodNamed Bd.named Bd.method).1
  have X0 : Stand p l e ({ frames := 4, cells := 4, slots := 20, locals := 66 } : Room) (s.setVm s.vm) m #[(.int p1), (.ref a2)] below meth c s₁ [] 0 0 := Stand.of_body Bd
  have hS0 : s.Since s.vm 0 := (State.WarmedH.refl s).since 0
  have e0 : s₁.heap = h0 := by rw [← hH0, Bd.state]; rfl
  have N0 := Fr.nil n0
  refine own_cast (ef_mk m p1 a2) ?_
  show own_Go p e below (fun o U' => ∃ v L, o = .returned v ∧ Qmk Z p1 a2 kc c0 c1 c2 c3 c4 c5 cs h0 n0 v U'.heap L U'.vm ∧ ReturnedEndW s o U' L ({ frames := 4, cells := 4, slots := 20, locals := 66 } : Room).cells ({ frames := 4, cells := 4, slots := 20, locals := 66 } : Room).slots) (s₁.setTop (mkF m 0 #[.val (.int p1), .val (.ref a2)] []))
  rcases hn with rfl | rfl | rfl | rfl | rfl | rfl | rfl
  · show own_Go p e below _ (s₁.setTop (mkF m 0 #[.val (.int (0 : Int32)), .val (.ref a2)] []))
    refine own_via (fun _ => XS.iloadN X0.here hx rfl (hb hby d2_0) rfl) ?_
    show own_Go p e below _ (s₁.setTop (mkF m 1 #[.val (.int (0 : Int32)), .val (.ref a2)] [(.int (0 : Int32))]))
    refine own_via (fun _ => XS.ifNo X0.here hx rfl (hb hby d2_1) rfl ((if0 _ _).trans (flt ((by decide) : ¬ ((0 : Int32) < (0 : Int32)))).2.2.1)) ?_
    show own_Go p e below _ (s₁.setTop (mkF m 4 #[.val (.int (0 : Int32)), .val (.ref a2)] []))
    obtain ⟨T_1, h_1, X_1, e_1, E_1, A_1, D_1, -, st_1⟩ := newO X0 hx hZ hown (own_w hw 8 rfl) (own_w hw 9 rfl) (own_w hw 10 rfl) e0 (g := (mkF m 4 #[.val (.int (0 : Int32)), .val (.ref a2)] [])) rfl (hb hby d2_4) (by decide) (by decide)
    obtain ⟨b_1, g_1⟩ : ∃ z, z = h0.size := ⟨_, rfl⟩
    rw [← g_1] at A_1 D_1 st_1
    have F_2 : Fld Z h_1 b_1 "java/lang/String" "coder" "B" (.int (0 : Int32)) := D_1 (Or.inr (own_w hw 34 rfl)) (ty := .byte) (by decide)
    have F_3 : Fld Z h_1 b_1 "java/lang/String" "value" "[B" .null := D_1 (Or.inr (own_w hw 36 rfl)) (ty := (.array .byte)) (by decide)
    refine own_via st_1 ?_
    show own_Go p e below _ (T_1.setTop (mkF m 7 #[.val (.int (0 : Int32)), .val (.ref a2)] [(.ref b_1)]))
    refine own_via (fun _ => XS.dup X_1.here hx rfl (hb hby d2_7) rfl rfl) ?_
    show own_Go p e below _ (T_1.setTop (mkF m 8 #[.val (.int (0 : Int32)), .val (.ref a2)] [(.ref b_1), (.ref b_1)]))
    refine own_via (fun _ => XS.iconst X_1.here hx rfl (hb hby d2_8)) ?_
    show own_Go p e below _ (T_1.setTop (mkF m 9 #[.val (.int (0 : Int32)), .val (.ref a2)] [(.int (0 : Int32)), (.ref b_1), (.ref b_1)]))
    obtain ⟨T_4, h_4, k_4, X_4, e_4, E_4, A_4, st_4⟩ := newP X_1 hx hZ (own_w hw 0 rfl) e_1 (g := (mkF m 9 #[.val (.int (0 : Int32)), .val (.ref a2)] [(.int (0 : Int32)), (.ref b_1), (.ref b_1)])) rfl (hb hby d2_9) rfl (by decide) (cap := 0) (by decide) (by decide) (by decide) (by decide)
    obtain ⟨b_4, g_4⟩ : ∃ z, z = h_1.size := ⟨_, rfl⟩
    rw [← g_4] at A_4 st_4
    have V_4 : Arv Z h_4 b_4 k_4 .char (0 : Int32) [] (.int (0 : Int32)) := Arv.new A_4 (by decide)
    refine own_via st_4 ?_
    show own_Go p e below _ (T_4.setTop (mkF m 11 #[.val (.int (0 : Int32)), .val (.ref a2)] [(.ref b_4), (.ref b_1), (.ref b_1)]))
    have K_5 : Keep h_1 h_4 [] := (Keep.refl h_1 []).ext E_4
    have K_6 : Keep h0 h_1 [] := (Keep.refl h0 []).ext E_1
    have K_7 : Keep h0 h_4 [] := K_6.ext E_4
    obtain ⟨_, _, ⟨T_8, L_8, k_8, n_8⟩, -, Xc_8, hSc_8, hgc_8, ⟨Lc_8, hQ_8, l_8, y_8, z_8⟩, st_8⟩ := X_4.specialBackS hx (y := (⟨"java/lang/String", "<init>", "([C)V"⟩ : MethodName)) rfl hown (mvT hZ (own_w hw 11 rfl)) (mvT hZ (own_w hw 12 rfl)) (mvT hZ (own_w hw 13 rfl)) (by decide) (own_backS (J := fun vm_ => CHv Z consts_1 vm_ h_4 ∧ Safe Z consts_1 vm_ h_4 b_1) (W := 1) (rmstrC0 l Z a0 hw [] b_1 b_4 k_4 h_4 n0 (Nat.le_trans Z0 K_7.1) (O0.keep K_7 all0) (A_1.keep K_5) (F_3.keep K_5 nin0) (F_2.keep K_5 nin0) (Nat.le_trans Z0 (Nat.le_of_eq g_1.symm)) V_4) hZ (own_w hw 13 rfl) (own_w hw 10 rfl) (by decide) (by decide)) (g := (mkF m 11 #[.val (.int (0 : Int32)), .val (.ref a2)] [(.ref b_4), (.ref b_1), (.ref b_1)])) rfl (by rw [hml]; rfl) (Steps.refl _) (a := b_1) (argsL := [(.ref b_4)]) (rest := [(.ref b_1)]) (lenOf pd_4 rfl) rfl (by show 2 * 0 + _ ≤ _; exact Nat.le_of_eq rfl) (hb hby d2_11) (fun _ hW1 => ⟨rfl, e_4, ⟨(own_CHstay (J0.keep K_7 all0) hZ (own_EW hw) hW1), (own_Sfstay (J0.keep K_7 all0) hZ (own_EW hw) hW1 (Nat.lt_of_lt_of_le A_1.lt K_5.1) (Safe.keep K_7 all0 J0 (Safe.new (Nat.le_of_eq g_1.symm))))⟩, (by decide : 2 + 2 ≤ _), (by decide : 4 + 4 ≤ _)⟩)
    dsimp only [Pt.U, Pt.locs, Pt.cells, Pt.slots] at Xc_8 hSc_8 hgc_8 l_8 y_8 z_8 st_8 hQ_8
    subst l_8 y_8 z_8
    obtain ⟨X_8, hS_8, hZ_8, ho_8⟩ := rebS hS0 (by rw [e_4]; exact (Nat.le_trans (Nat.zero_le _) K_7.1)) Xc_8 hSc_8 hgc_8 hZ hown
    obtain ⟨rfl, Nq_8, K_8q, q_8_0, J_8⟩ := hQ_8
    have N_8 := Fr.app N0 Nq_8
    refine own_via (fun _ k => st_8.trans k) ?_
    show own_Go p e below _ (T_8.setTop (mkF m 14 #[.val (.int (0 : Int32)), .val (.ref a2)] [(.ref b_1)]))
    have K_9 : Keep h_1 T_8.heap [b_1] := Keep.trans (ws := [b_1]) (own_keep_mono K_5 (by simp)) K_8q (allS (Or.inl (List.mem_of_getElem? (i := 0) rfl)) all0)
    have K_10 : Keep h0 T_8.heap [] := Keep.trans (ws := []) K_7 K_8q (allS (Or.inr (Nat.le_of_eq g_1.symm)) all0)
    exact own_retvW X_8 hS_8 (Nat.le_refl _) Bd.notSynchronized hx Bd.returns rfl (Or.inr (Or.inr (Or.inr (Or.inr ⟨rfl, rfl, rfl⟩)))) (hb hby d2_14) (by decide) (by decide) ⟨b_1, rfl, N_8, K_10, (Nat.le_of_eq g_1.symm), (A_1.keep K_9), q_8_0, (own_CHstay J_8 hZ_8 (own_EW hw) X_8.warmed)⟩
  · show own_Go p e below _ (s₁.setTop (mkF m 0 #[.val (.int (1 : Int32)), .val (.ref a2)] []))
    refine own_via (fun _ => XS.iloadN X0.here hx rfl (hb hby d2_0) rfl) ?_
    show own_Go p e below _ (s₁.setTop (mkF m 1 #[.val (.int (1 : Int32)), .val (.ref a2)] [(.int (1 : Int32))]))
    refine own_via (fun _ => XS.ifYes X0.here hx rfl (pc0 := 1) (pc' := 15) rfl (hb hby d2_1) rfl ((if0 _ _).trans (tlt ((by decide) : (0 : Int32) < (1 : Int32))).2.2.1) (by decide) (by decide)) ?_
    show own_Go p e below _ (s₁.setTop (mkF m 15 #[.val (.int (1 : Int32)), .val (.ref a2)] []))
    refine own_via (fun _ => XS.iloadN X0.here hx rfl (hb hby d2_15) rfl) ?_
    show own_Go p e below _ (s₁.setTop (mkF m 16 #[.val (.int (1 : Int32)), .val (.ref a2)] [(.int (1 : Int32))]))
    refine own_via (fun _ => XS.iconst X0.here hx rfl (hb hby d2_16)) ?_
    show own_Go p e below _ (s₁.setTop (mkF m 17 #[.val (.int (1 : Int32)), .val (.ref a2)] [(.int (1 : Int32)), (.int (1 : Int32))]))
    refine own_via (fun _ => XS.icmpNo X0.here hx rfl (hb hby d2_17) rfl (teq ((by decide) : (1 : Int32) = (1 : Int32))).2) ?_
    show own_Go p e below _ (s₁.setTop (mkF m 20 #[.val (.int (1 : Int32)), .val (.ref a2)] []))
    obtain ⟨T_11, h_11, X_11, e_11, E_11, A_11, D_11, -, st_11⟩ := newO X0 hx hZ hown (own_w hw 8 rfl) (own_w hw 9 rfl) (own_w hw 10 rfl) e0 (g := (mkF m 20 #[.val (.int (1 : Int32)), .val (.ref a2)] [])) rfl (hb hby d2_20) (by decide) (by decide)
    obtain ⟨b_11, g_11⟩ : ∃ z, z = h0.size := ⟨_, rfl⟩
    rw [← g_11] at A_11 D_11 st_11
    have F_12 : Fld Z h_11 b_11 "java/lang/String" "coder" "B" (.int (0 : Int32)) := D_11 (Or.inr (own_w hw 34 rfl)) (ty := .byte) (by decide)
    have F_13 : Fld Z h_11 b_11 "java/lang/String" "value" "[B" .null := D_11 (Or.inr (own_w hw 36 rfl)) (ty := (.array .byte)) (by decide)
    refine own_via st_11 ?_
    show own_Go p e below _ (T_11.setTop (mkF m 23 #[.val (.int (1 : Int32)), .val (.ref a2)] [(.ref b_11)]))
    refine own_via (fun _ => XS.dup X_11.here hx rfl (hb hby d2_23) rfl rfl) ?_
    show own_Go p e below _ (T_11.setTop (mkF m 24 #[.val (.int (1 : Int32)), .val (.ref a2)] [(.ref b_11), (.ref b_11)]))
    refine own_via (fun _ => XS.iconst X_11.here hx rfl (hb hby d2_24)) ?_
    show own_Go p e below _ (T_11.setTop (mkF m 25 #[.val (.int (1 : Int32)), .val (.ref a2)] [(.int (1 : Int32)), (.ref b_11), (.ref b_11)]))
    obtain ⟨T_14, h_14, k_14, X_14, e_14, E_14, A_14, st_14⟩ := newP X_11 hx hZ (own_w hw 0 rfl) e_11 (g := (mkF m 25 #[.val (.int (1 : Int32)), .val (.ref a2)] [(.int (1 : Int32)), (.ref b_11), (.ref b_11)])) rfl (hb hby d2_25) rfl (by decide) (cap := 1) (by decide) (by decide) (by decide) (by decide)
    obtain ⟨b_14, g_14⟩ : ∃ z, z = h_11.size := ⟨_, rfl⟩
    rw [← g_14] at A_14 st_14
    have V_14 : Arv Z h_14 b_14 k_14 .char (1 : Int32) [(.int (0 : Int32))] (.int (0 : Int32)) := (Arv.new A_14 (by decide)).pad (pad_rep [] (.int (0 : Int32)) 1)
    refine own_via st_14 ?_
    show own_Go p e below _ (T_14.setTop (mkF m 27 #[.val (.int (1 : Int32)), .val (.ref a2)] [(.ref b_14), (.ref b_11), (.ref b_11)]))
    refine own_via (fun _ => XS.dup X_14.here hx rfl (hb hby d2_27) rfl rfl) ?_
    show own_Go p e below _ (T_14.setTop (mkF m 28 #[.val (.int (1 : Int32)), .val (.ref a2)] [(.ref b_14), (.ref b_14), (.ref b_11), (.ref b_11)]))
    refine own_via (fun _ => XS.iconst X_14.here hx rfl (hb hby d2_28)) ?_
    show own_Go p e below _ (T_14.setTop (mkF m 29 #[.val (.int (1 : Int32)), .val (.ref a2)] [(.int (0 : Int32)), (.ref b_14), (.ref b_14), (.ref b_11), (.ref b_11)]))
    refine own_via (fun _ => XS.aloadN X_14.here hx rfl (hb hby d2_29) rfl rfl) ?_
    show own_Go p e below _ (T_14.setTop (mkF m 30 #[.val (.int (1 : Int32)), .val (.ref a2)] [(.ref a2), (.int (0 : Int32)), (.ref b_14), (.ref b_14), (.ref b_11), (.ref b_11)]))
    refine own_via (fun _ => XS.iconst X_14.here hx rfl (hb hby d2_30)) ?_
    show own_Go p e below _ (T_14.setTop (mkF m 31 #[.val (.int (1 : Int32)), .val (.ref a2)] [(.int (0 : Int32)), (.ref a2), (.int (0 : Int32)), (.ref b_14), (.ref b_14), (.ref b_11), (.ref b_11)]))
    have K_15 : Keep h0 h_11 [] := (Keep.refl h0 []).ext E_11
    have K_16 : Keep h0 h_14 [] := K_15.ext E_14
    obtain ⟨cl_17, Ar_17, q_17, S_17, M_17, H_17, G_17⟩ := (id (A2.keep K_16 nin0))
    have in_17 : ¬ ((0 : Int32) < 0 ∨ cl_17.slots.size ≤ ((0 : Int32)).toNatClampNeg) := inb_of S_17 ⟨by decide, by decide⟩
    refine own_via (X_14.caload hx (j := (0 : Int32)) (v := (.int c0)) (by rw [e_14]; exact Ar_17.1) (State.isArrayOf_alike hZ.alike Ar_17.2.1) Ar_17.2.2 in_17 (Has.at H_17 in_17 rfl) (g := (mkF m 31 #[.val (.int (1 : Int32)), .val (.ref a2)] [(.int (0 : Int32)), (.ref a2), (.int (0 : Int32)), (.ref b_14), (.ref b_14), (.ref b_11), (.ref b_11)])) rfl rfl (hb hby d2_31)) ?_
    show own_Go p e below _ (T_14.setTop (mkF m 32 #[.val (.int (1 : Int32)), .val (.ref a2)] [(.int c0), (.int (0 : Int32)), (.ref b_14), (.ref b_14), (.ref b_11), (.ref b_11)]))
    obtain ⟨cl_18, Ar_18, q_18, S_18, M_18, H_18, G_18⟩ := (id V_14)
    obtain ⟨T_18, h_18, X_18, e_18, W_18, st_18⟩ := stC X_14 hx hZ e_14 Ar_18 (j := (0 : Int32)) (inb_of S_18 ⟨by decide, by decide⟩) (g := (mkF m 32 #[.val (.int (1 : Int32)), .val (.ref a2)] [(.int c0), (.int (0 : Int32)), (.ref b_14), (.ref b_14), (.ref b_11), (.ref b_11)])) rfl rfl (hb hby d2_32)
    have V_18 : Arv Z h_18 b_14 k_14 .char (1 : Int32) [(.int (nar .char c0))] (.int (0 : Int32)) := Arv.set Ar_18 q_18 S_18 M_18 H_18 G_18 (fits_nar_char _) W_18 0 rfl (Nat.le_of_ble_eq_true rfl)
    have N_18 := Fr.snoc X_18 N0 (Nat.le_trans Z0 (Nat.le_trans K_15.1 (Nat.le_of_eq g_14.symm)))
    refine own_via st_18 ?_
    show own_Go p e below _ (T_18.setTop (mkF m 33 #[.val (.int (1 : Int32)), .val (.ref a2)] [(.ref b_14), (.ref b_11), (.ref b_11)]))
    have V_19 : Arv Z h_18 b_14 k_14 .char (1 : Int32) [(.int c0)] (.int (0 : Int32)) := by have q := V_18; rwa [own_nar hb0] at q
    have hp : ∀ c ∈ ([c0] : List Int32), ¬ c < 0 ∧ ¬ (255 : Int32) < c := by intro c hc; simp only [List.mem_cons, List.not_mem_nil, or_false] at hc; rcases hc with rfl <;> assumption
    have K_20 : Keep h_11 h_14 [] := (Keep.refl h_11 []).ext E_14
    have K_21 : Keep h_11 h_18 [] := Keep.wr (ws := []) K_20 W_18 (Or.inr (Nat.le_of_eq g_14.symm))
    have K_22 : Keep h0 h_18 [] := Keep.wr (ws := []) K_16 W_18 (Or.inr (Nat.le_trans K_15.1 (Nat.le_of_eq g_14.symm)))
    obtain ⟨_, _, ⟨T_23, L_23, k_23, n_23⟩, -, X_23, ⟨Lc_23, hQ_23, l_23, y_23, z_23⟩, st_23⟩ := X_18.specialBack hx (y := (⟨"java/lang/String", "<init>", "([C)V"⟩ : MethodName)) rfl hown (mvT hZ (own_w hw 11 rfl)) (mvT hZ (own_w hw 12 rfl)) (mvT hZ (own_w hw 13 rfl)) (by decide) (StrChars.Road.backV (W := 1) hZ (own_hwords hw) (kI := 4) (own_w hw 9 rfl) (cs := ([c0] : List Int32)) (bs := ([c0] : List Int32).map (fun c => c.toInt8.toInt32)) (n := 1) (Nat.le_trans Z0 (Nat.le_of_eq g_11.symm)) (Nat.le_trans Z0 K_22.1) (A_11.keep K_21) (F_13.keep K_21 nin0) (F_12.keep K_21 nin0) V_19 (Scs.ext (O0.keep K_22 all0).2) hcs rfl rfl (by decide) (by decide) hp rfl (by decide) (by decide)) (g := (mkF m 33 #[.val (.int (1 : Int32)), .val (.ref a2)] [(.ref b_14), (.ref b_11), (.ref b_11)])) rfl (by rw [hml]; rfl) (Steps.refl _) (a := b_11) (argsL := [(.ref b_14)]) (rest := [(.ref b_11)]) (lenOf pd_4 rfl) rfl (by show 2 * 0 + _ ≤ _; exact Nat.le_of_eq rfl) (hb hby d2_33) (fun _ _ => ⟨rfl, e_18, (by decide : 2 + 1 ≤ _), (by decide : 5 + 1 ≤ _)⟩)
    dsimp only [Pt.U, Pt.locs, Pt.cells, Pt.slots] at X_23 l_23 y_23 z_23 st_23 hQ_23
    subst l_23 y_23 z_23
    obtain ⟨rfl, Nq_23, K_23q, EX_23, FC_23, t_23, kb_23, -, ft_23, -, FV_23, FA_23⟩ := hQ_23
    have N_23 := Fr.app N_18 Nq_23
    refine own_via (fun _ k => st_23.trans k) ?_
    show own_Go p e below _ (T_23.setTop (mkF m 36 #[.val (.int (1 : Int32)), .val (.ref a2)] [(.ref b_11)]))
    have K_24 : Keep h0 T_23.heap [] := Keep.trans (ws := []) K_22 K_23q (allS (Or.inr (Nat.le_of_eq g_11.symm)) all0)
    exact own_retvW X_23 hS0 (Nat.le_trans (Nat.zero_le _) K_24.1) Bd.notSynchronized hx Bd.returns rfl (Or.inr (Or.inr (Or.inr (Or.inr ⟨rfl, rfl, rfl⟩)))) (hb hby d2_36) (by decide) (by decide) ⟨b_11, rfl, N_23, K_24, (Nat.le_of_eq g_11.symm), EX_23, ⟨EX_23, FC_23, ⟨t_23, kb_23, FV_23, FA_23⟩, hp, (by simp)⟩, (own_CHstay (J0.keep K_24 all0) hZ (own_EW hw) X_23.warmed)⟩
  · show own_Go p e below _ (s₁.setTop (mkF m 0 #[.val (.int (2 : Int32)), .val (.ref a2)] []))
    refine own_via (fun _ => XS.iloadN X0.here hx rfl (hb hby d2_0) rfl) ?_
    show own_Go p e below _ (s₁.setTop (mkF m 1 #[.val (.int (2 : Int32)), .val (.ref a2)] [(.int (2 : Int32))]))
    refine own_via (fun _ => XS.ifYes X0.here hx rfl (pc0 := 1) (pc' := 15) rfl (hb hby d2_1) rfl ((if0 _ _).trans (tlt ((by decide) : (0 : Int32) < (2 : Int32))).2.2.1) (by decide) (by decide)) ?_
    show own_Go p e below _ (s₁.setTop (mkF m 15 #[.val (.int (2 : Int32)), .val (.ref a2)] []))
    refine own_via (fun _ => XS.iloadN X0.here hx rfl (hb hby d2_15) rfl) ?_
    show own_Go p e below _ (s₁.setTop (mkF m 16 #[.val (.int (2 : Int32)), .val (.ref a2)] [(.int (2 : Int32))]))
    refine own_via (fun _ => XS.iconst X0.here hx rfl (hb hby d2_16)) ?_
    show own_Go p e below _ (s₁.setTop (mkF m 17 #[.val (.int (2 : Int32)), .val (.ref a2)] [(.int (1 : Int32)), (.int (2 : Int32))]))
    refine own_via (fun _ => XS.icmpYes X0.here hx rfl (pc0 := 17) (pc' := 37) rfl (hb hby d2_17) rfl (feq ((by decide) : ¬ ((2 : Int32) = (1 : Int32)))).2 (by decide) (by decide)) ?_
    show own_Go p e below _ (s₁.setTop (mkF m 37 #[.val (.int (2 : Int32)), .val (.ref a2)] []))
    refine own_via (fun _ => XS.iloadN X0.here hx rfl (hb hby d2_37) rfl) ?_
    show own_Go p e below _ (s₁.setTop (mkF m 38 #[.val (.int (2 : Int32)), .val (.ref a2)] [(.int (2 : Int32))]))
    refine own_via (fun _ => XS.iconst X0.here hx rfl (hb hby d2_38)) ?_
    show own_Go p e below _ (s₁.setTop (mkF m 39 #[.val (.int (2 : Int32)), .val (.ref a2)] [(.int (2 : Int32)), (.int (2 : Int32))]))
    refine own_via (fun _ => XS.icmpNo X0.here hx rfl (hb hby d2_39) rfl (teq ((by decide) : (2 : Int32) = (2 : Int32))).2) ?_
    show own_Go p e below _ (s₁.setTop (mkF m 42 #[.val (.int (2 : Int32)), .val (.ref a2)] []))
    obtain ⟨T_25, h_25, X_25, e_25, E_25, A_25, D_25, -, st_25⟩ := newO X0 hx hZ hown (own_w hw 8 rfl) (own_w hw 9 rfl) (own_w hw 10 rfl) e0 (g := (mkF m 42 #[.val (.int (2 : Int32)), .val (.ref a2)] [])) rfl (hb hby d2_42) (by decide) (by decide)
    obtain ⟨b_25, g_25⟩ : ∃ z, z = h0.size := ⟨_, rfl⟩
    rw [← g_25] at A_25 D_25 st_25
    have F_26 : Fld Z h_25 b_25 "java/lang/String" "coder" "B" (.int (0 : Int32)) := D_25 (Or.inr (own_w hw 34 rfl)) (ty := .byte) (by decide)
    have F_27 : Fld Z h_25 b_25 "java/lang/String" "value" "[B" .null := D_25 (Or.inr (own_w hw 36 rfl)) (ty := (.array .byte)) (by decide)
    refine own_via st_25 ?_
    show own_Go p e below _ (T_25.setTop (mkF m 45 #[.val (.int (2 : Int32)), .val (.ref a2)] [(.ref b_25)]))
    refine own_via (fun _ => XS.dup X_25.here hx rfl (hb hby d2_45) rfl rfl) ?_
    show own_Go p e below _ (T_25.setTop (mkF m 46 #[.val (.int (2 : Int32)), .val (.ref a2)] [(.ref b_25), (.ref b_25)]))
    refine own_via (fun _ => XS.iconst X_25.here hx rfl (hb hby d2_46)) ?_
    show own_Go p e below _ (T_25.setTop (mkF m 47 #[.val (.int (2 : Int32)), .val (.ref a2)] [(.int (2 : Int32)), (.ref b_25), (.ref b_25)]))
    obtain ⟨T_28, h_28, k_28, X_28, e_28, E_28, A_28, st_28⟩ := newP X_25 hx hZ (own_w hw 0 rfl) e_25 (g := (mkF m 47 #[.val (.int (2 : Int32)), .val (.ref a2)] [(.int (2 : Int32)), (.ref b_25), (.ref b_25)])) rfl (hb hby d2_47) rfl (by decide) (cap := 2) (by decide) (by decide) (by decide) (by decide)
    obtain ⟨b_28, g_28⟩ : ∃ z, z = h_25.size := ⟨_, rfl⟩
    rw [← g_28] at A_28 st_28
    have V_28 : Arv Z h_28 b_28 k_28 .char (2 : Int32) [(.int (0 : Int32)), (.int (0 : Int32))] (.int (0 : Int32)) := (Arv.new A_28 (by decide)).pad (pad_rep [] (.int (0 : Int32)) 2)
    refine own_via st_28 ?_
    show own_Go p e below _ (T_28.setTop (mkF m 49 #[.val (.int (2 : Int32)), .val (.ref a2)] [(.ref b_28), (.ref b_25), (.ref b_25)]))
    refine own_via (fun _ => XS.dup X_28.here hx rfl (hb hby d2_49) rfl rfl) ?_
    show own_Go p e below _ (T_28.setTop (mkF m 50 #[.val (.int (2 : Int32)), .val (.ref a2)] [(.ref b_28), (.ref b_28), (.ref b_25), (.ref b_25)]))
    refine own_via (fun _ => XS.iconst X_28.here hx rfl (hb hby d2_50)) ?_
    show own_Go p e below _ (T_28.setTop (mkF m 51 #[.val (.int (2 : Int32)), .val (.ref a2)] [(.int (0 : Int32)), (.ref b_28), (.ref b_28), (.ref b_25), (.ref b_25)]))
    refine own_via (fun _ => XS.aloadN X_28.here hx rfl (hb hby d2_51) rfl rfl) ?_
    show own_Go p e below _ (T_28.setTop (mkF m 52 #[.val (.int (2 : Int32)), .val (.ref a2)] [(.ref a2), (.int (0 : Int32)), (.ref b_28), (.ref b_28), (.ref b_25), (.ref b_25)]))
    refine own_via (fun _ => XS.iconst X_28.here hx rfl (hb hby d2_52)) ?_
    show own_Go p e below _ (T_28.setTop (mkF m 53 #[.val (.int (2 : Int32)), .val (.ref a2)] [(.int (0 : Int32)), (.ref a2), (.int (0 : Int32)), (.ref b_28), (.ref b_28), (.ref b_25), (.ref b_25)]))
    have K_29 : Keep h0 h_25 [] := (Keep.refl h0 []).ext E_25
    have K_30 : Keep h0 h_28 [] := K_29.ext E_28
    obtain ⟨cl_31, Ar_31, q_31, S_31, M_31, H_31, G_31⟩ := (id (A2.keep K_30 nin0))
    have in_31 : ¬ ((0 : Int32) < 0 ∨ cl_31.slots.size ≤ ((0 : Int32)).toNatClampNeg) := inb_of S_31 ⟨by decide, by decide⟩
    refine own_via (X_28.caload hx (j := (0 : Int32)) (v := (.int c0)) (by rw [e_28]; exact Ar_31.1) (State.isArrayOf_alike hZ.alike Ar_31.2.1) Ar_31.2.2 in_31 (Has.at H_31 in_31 rfl) (g := (mkF m 53 #[.val (.int (2 : Int32)), .val (.ref a2)] [(.int (0 : Int32)), (.ref a2), (.int (0 : Int32)), (.ref b_28), (.ref b_28), (.ref b_25), (.ref b_25)])) rfl rfl (hb hby d2_53)) ?_
    show own_Go p e below _ (T_28.setTop (mkF m 54 #[.val (.int (2 : Int32)), .val (.ref a2)] [(.int c0), (.int (0 : Int32)), (.ref b_28), (.ref b_28), (.ref b_25), (.ref b_25)]))
    obtain ⟨cl_32, Ar_32, q_32, S_32, M_32, H_32, G_32⟩ := (id V_28)
    obtain ⟨T_32, h_32, X_32, e_32, W_32, st_32⟩ := stC X_28 hx hZ e_28 Ar_32 (j := (0 : Int32)) (inb_of S_32 ⟨by decide, by decide⟩) (g := (mkF m 54 #[.val (.int (2 : Int32)), .val (.ref a2)] [(.int c0), (.int (0 : Int32)), (.ref b_28), (.ref b_28), (.ref b_25), (.ref b_25)])) rfl rfl (hb hby d2_54)
    have V_32 : Arv Z h_32 b_28 k_28 .char (2 : Int32) [(.int (nar .char c0)), (.int (0 : Int32))] (.int (0 : Int32)) := Arv.set Ar_32 q_32 S_32 M_32 H_32 G_32 (fits_nar_char _) W_32 0 rfl (Nat.le_of_ble_eq_true rfl)
    have N_32 := Fr.snoc X_32 N0 (Nat.le_trans Z0 (Nat.le_trans K_29.1 (Nat.le_of_eq g_28.symm)))
    refine own_via st_32 ?_
    show own_Go p e below _ (T_32.setTop (mkF m 55 #[.val (.int (2 : Int32)), .val (.ref a2)] [(.ref b_28), (.ref b_25), (.ref b_25)]))
    have V_33 : Arv Z h_32 b_28 k_28 .char (2 : Int32) [(.int c0), (.int (0 : Int32))] (.int (0 : Int32)) := by have q := V_32; rwa [own_nar hb0] at q
    refine own_via (fun _ => XS.dup X_32.here hx rfl (hb hby d2_55) rfl rfl) ?_
    show own_Go p e below _ (T_32.setTop (mkF m 56 #[.val (.int (2 : Int32)), .val (.ref a2)] [(.ref b_28), (.ref b_28), (.ref b_25), (.ref b_25)]))
    refine own_via (fun _ => XS.iconst X_32.here hx rfl (hb hby d2_56)) ?_
    show own_Go p e below _ (T_32.setTop (mkF m 57 #[.val (.int (2 : Int32)), .val (.ref a2)] [(.int (1 : Int32)), (.ref b_28), (.ref b_28), (.ref b_25), (.ref b_25)]))
    refine own_via (fun _ => XS.aloadN X_32.here hx rfl (hb hby d2_57) rfl rfl) ?_
    show own_Go p e below _ (T_32.setTop (mkF m 58 #[.val (.int (2 : Int32)), .val (.ref a2)] [(.ref a2), (.int (1 : Int32)), (.ref b_28), (.ref b_28), (.ref b_25), (.ref b_25)]))
    refine own_via (fun _ => XS.iconst X_32.here hx rfl (hb hby d2_58)) ?_
    show own_Go p e below _ (T_32.setTop (mkF m 59 #[.val (.int (2 : Int32)), .val (.ref a2)] [(.int (1 : Int32)), (.ref a2), (.int (1 : Int32)), (.ref b_28), (.ref b_28), (.ref b_25), (.ref b_25)]))
    have K_34 : Keep h0 h_32 [] := Keep.wr (ws := []) K_30 W_32 (Or.inr (Nat.le_trans K_29.1 (Nat.le_of_eq g_28.symm)))
    obtain ⟨cl_35, Ar_35, q_35, S_35, M_35, H_35, G_35⟩ := (id (A2.keep K_34 nin0))
    have in_35 : ¬ ((1 : Int32) < 0 ∨ cl_35.slots.size ≤ ((1 : Int32)).toNatClampNeg) := inb_of S_35 ⟨by decide, by decide⟩
    refine own_via (X_32.caload hx (j := (1 : Int32)) (v := (.int c1)) (by rw [e_32]; exact Ar_35.1) (State.isArrayOf_alike hZ.alike Ar_35.2.1) Ar_35.2.2 in_35 (Has.at H_35 in_35 rfl) (g := (mkF m 59 #[.val (.int (2 : Int32)), .val (.ref a2)] [(.int (1 : Int32)), (.ref a2), (.int (1 : Int32)), (.ref b_28), (.ref b_28), (.ref b_25), (.ref b_25)])) rfl rfl (hb hby d2_59)) ?_
    show own_Go p e below _ (T_32.setTop (mkF m 60 #[.val (.int (2 : Int32)), .val (.ref a2)] [(.int c1), (.int (1 : Int32)), (.ref b_28), (.ref b_28), (.ref b_25), (.ref b_25)]))
    obtain ⟨cl_36, Ar_36, q_36, S_36, M_36, H_36, G_36⟩ := (id V_33)
    obtain ⟨T_36, h_36, X_36, e_36, W_36, st_36⟩ := stC X_32 hx hZ e_32 Ar_36 (j := (1 : Int32)) (inb_of S_36 ⟨by decide, by decide⟩) (g := (mkF m 60 #[.val (.int (2 : Int32)), .val (.ref a2)] [(.int c1), (.int (1 : Int32)), (.ref b_28), (.ref b_28), (.ref b_25), (.ref b_25)])) rfl rfl (hb hby d2_60)
    have V_36 : Arv Z h_36 b_28 k_28 .char (2 : Int32) [(.int c0), (.int (nar .char c1))] (.int (0 : Int32)) := Arv.set Ar_36 q_36 S_36 M_36 H_36 G_36 (fits_nar_char _) W_36 1 rfl (Nat.le_of_ble_eq_true rfl)
    have N_36 := Fr.snoc X_36 N_32 (Nat.le_trans Z0 (Nat.le_trans K_29.1 (Nat.le_of_eq g_28.symm)))
    refine own_via st_36 ?_
    show own_Go p e below _ (T_36.setTop (mkF m 61 #[.val (.int (2 : Int32)), .val (.ref a2)] [(.ref b_28), (.ref b_25), (.ref b_25)]))
    have V_37 : Arv Z h_36 b_28 k_28 .char (2 : Int32) [(.int c0), (.int c1)] (.int (0 : Int32)) := by have q := V_36; rwa [own_nar hb1] at q
    have hp : ∀ c ∈ ([c0, c1] : List Int32), ¬ c < 0 ∧ ¬ (255 : Int32) < c := by intro c hc; simp only [List.mem_cons, List.not_mem_nil, or_false] at hc; rcases hc with rfl | rfl <;> assumption
    have K_38 : Keep h_25 h_28 [] := (Keep.refl h_25 []).ext E_28
    have K_39 : Keep h_25 h_32 [] := Keep.wr (ws := []) K_38 W_32 (Or.inr (Nat.le_of_eq g_28.symm))
    have K_40 : Keep h_25 h_36 [] := Keep.wr (ws := []) K_39 W_36 (Or.inr (Nat.le_of_eq g_28.symm))
    have K_41 : Keep h0 h_36 [] := Keep.wr (ws := []) K_34 W_36 (Or.inr (Nat.le_trans K_29.1 (Nat.le_of_eq g_28.symm)))
    obtain ⟨_, _, ⟨T_42, L_42, k_42, n_42⟩, -, X_42, ⟨Lc_42, hQ_42, l_42, y_42, z_42⟩, st_42⟩ := X_36.specialBack hx (y := (⟨"java/lang/String", "<init>", "([C)V"⟩ : MethodName)) rfl hown (mvT hZ (own_w hw 11 rfl)) (mvT hZ (own_w hw 12 rfl)) (mvT hZ (own_w hw 13 rfl)) (by decide) (StrChars.Road.backV (W := 1) hZ (own_hwords hw) (kI := 4) (own_w hw 9 rfl) (cs := ([c0, c1] : List Int32)) (bs := ([c0, c1] : List Int32).map (fun c => c.toInt8.toInt32)) (n := 2) (Nat.le_trans Z0 (Nat.le_of_eq g_25.symm)) (Nat.le_trans Z0 K_41.1) (A_25.keep K_40) (F_27.keep K_40 nin0) (F_26.keep K_40 nin0) V_37 (Scs.ext (O0.keep K_41 all0).2) hcs rfl rfl (by decide) (by decide) hp rfl (by decide) (by decide)) (g := (mkF m 61 #[.val (.int (2 : Int32)), .val (.ref a2)] [(.ref b_28), (.ref b_25), (.ref b_25)])) rfl (by rw [hml]; rfl) (Steps.refl _) (a := b_25) (argsL := [(.ref b_28)]) (rest := [(.ref b_25)]) (lenOf pd_4 rfl) rfl (by show 2 * 0 + _ ≤ _; exact Nat.le_of_eq rfl) (hb hby d2_61) (fun _ _ => ⟨rfl, e_36, (by decide : 2 + 1 ≤ _), (by decide : 6 + 2 ≤ _)⟩)
    dsimp only [Pt.U, Pt.locs, Pt.cells, Pt.slots] at X_42 l_42 y_42 z_42 st_42 hQ_42
    subst l_42 y_42 z_42
    obtain ⟨rfl, Nq_42, K_42q, EX_42, FC_42, t_42, kb_42, -, ft_42, -, FV_42, FA_42⟩ := hQ_42
    have N_42 := Fr.app N_36 Nq_42
    refine own_via (fun _ k => st_42.trans k) ?_
    show own_Go p e below _ (T_42.setTop (mkF m 64 #[.val (.int (2 : Int32)), .val (.ref a2)] [(.ref b_25)]))
    have K_43 : Keep h0 T_42.heap [] := Keep.trans (ws := []) K_41 K_42q (allS (Or.inr (Nat.le_of_eq g_25.symm)) all0)
    exact own_retvW X_42 hS0 (Nat.le_trans (Nat.zero_le _) K_43.1) Bd.notSynchronized hx Bd.returns rfl (Or.inr (Or.inr (Or.inr (Or.inr ⟨rfl, rfl, rfl⟩)))) (hb hby d2_64) (by decide) (by decide) ⟨b_25, rfl, N_42, K_43, (Nat.le_of_eq g_25.symm), EX_42, ⟨EX_42, FC_42, ⟨t_42, kb_42, FV_42, FA_42⟩, hp, (by simp)⟩, (own_CHstay (J0.keep K_43 all0) hZ (own_EW hw) X_42.warmed)⟩
  · show own_Go p e below _ (s₁.setTop (mkF m 0 #[.val (.int (3 : Int32)), .val (.ref a2)] []))
    refine own_via (fun _ => XS.iloadN X0.here hx rfl (hb hby d2_0) rfl) ?_
    show own_Go p e below _ (s₁.setTop (mkF m 1 #[.val (.int (3 : Int32)), .val (.ref a2)] [(.int (3 : Int32))]))
    refine own_via (fun _ => XS.ifYes X0.here hx rfl (pc0 := 1) (pc' := 15) rfl (hb hby d2_1) rfl ((if0 _ _).trans (tlt ((by decide) : (0 : Int32) < (3 : Int32))).2.2.1) (by decide) (by decide)) ?_
    show own_Go p e below _ (s₁.setTop (mkF m 15 #[.val (.int (3 : Int32)), .val (.ref a2)] []))
    refine own_via (fun _ => XS.iloadN X0.here hx rfl (hb hby d2_15) rfl) ?_
    show own_Go p e below _ (s₁.setTop (mkF m 16 #[.val (.int (3 : Int32)), .val (.ref a2)] [(.int (3 : Int32))]))
    refine own_via (fun _ => XS.iconst X0.here hx rfl (hb hby d2_16)) ?_
    show own_Go p e below _ (s₁.setTop (mkF m 17 #[.val (.int (3 : Int32)), .val (.ref a2)] [(.int (1 : Int32)), (.int (3 : Int32))]))
    refine own_via (fun _ => XS.icmpYes X0.here hx rfl (pc0 := 17) (pc' := 37) rfl (hb hby d2_17) rfl (feq ((by decide) : ¬ ((3 : Int32) = (1 : Int32)))).2 (by decide) (by decide)) ?_
    show own_Go p e below _ (s₁.setTop (mkF m 37 #[.val (.int (3 : Int32)), .val (.ref a2)] []))
    refine own_via (fun _ => XS.iloadN X0.here hx rfl (hb hby d2_37) rfl) ?_
    show own_Go p e below _ (s₁.setTop (mkF m 38 #[.val (.int (3 : Int32)), .val (.ref a2)] [(.int (3 : Int32))]))
    refine own_via (fun _ => XS.iconst X0.here hx rfl (hb hby d2_38)) ?_
    show own_Go p e below _ (s₁.setTop (mkF m 39 #[.val (.int (3 : Int32)), .val (.ref a2)] [(.int (2 : Int32)), (.int (3 : Int32))]))
    refine own_via (fun _ => XS.icmpYes X0.here hx rfl (pc0 := 39) (pc' := 65) rfl (hb hby d2_39) rfl (feq ((by decide) : ¬ ((3 : Int32) = (2 : Int32)))).2 (by decide) (by decide)) ?_
    show own_Go p e below _ (s₁.setTop (mkF m 65 #[.val (.int (3 : Int32)), .val (.ref a2)] []))
    refine own_via (fun _ => XS.iloadN X0.here hx rfl (hb hby d2_65) rfl) ?_
    show own_Go p e below _ (s₁.setTop (mkF m 66 #[.val (.int (3 : Int32)), .val (.ref a2)] [(.int (3 : Int32))]))
    refine own_via (fun _ => XS.iconst X0.here hx rfl (hb hby d2_66)) ?_
    show own_Go p e below _ (s₁.setTop (mkF m 67 #[.val (.int (3 : Int32)), .val (.ref a2)] [(.int (3 : Int32)), (.int (3 : Int32))]))
    refine own_via (fun _ => XS.icmpNo X0.here hx rfl (hb hby d2_67) rfl (teq ((by decide) : (3 : Int32) = (3 : Int32))).2) ?_
    show own_Go p e below _ (s₁.setTop (mkF m 70 #[.val (.int (3 : Int32)), .val (.ref a2)] []))
    obtain ⟨T_44, h_44, X_44, e_44, E_44, A_44, D_44, -, st_44⟩ := newO X0 hx hZ hown (own_w hw 8 rfl) (own_w hw 9 rfl) (own_w hw 10 rfl) e0 (g := (mkF m 70 #[.val (.int (3 : Int32)), .val (.ref a2)] [])) rfl (hb hby d2_70) (by decide) (by decide)
    obtain ⟨b_44, g_44⟩ : ∃ z, z = h0.size := ⟨_, rfl⟩
    rw [← g_44] at A_44 D_44 st_44
    have F_45 : Fld Z h_44 b_44 "java/lang/String" "coder" "B" (.int (0 : Int32)) := D_44 (Or.inr (own_w hw 34 rfl)) (ty := .byte) (by decide)
    have F_46 : Fld Z h_44 b_44 "java/lang/String" "value" "[B" .null := D_44 (Or.inr (own_w hw 36 rfl)) (ty := (.array .byte)) (by decide)
    refine own_via st_44 ?_
    show own_Go p e below _ (T_44.setTop (mkF m 73 #[.val (.int (3 : Int32)), .val (.ref a2)] [(.ref b_44)]))
    refine own_via (fun _ => XS.dup X_44.here hx rfl (hb hby d2_73) rfl rfl) ?_
    show own_Go p e below _ (T_44.setTop (mkF m 74 #[.val (.int (3 : Int32)), .val (.ref a2)] [(.ref b_44), (.ref b_44)]))
    refine own_via (fun _ => XS.iconst X_44.here hx rfl (hb hby d2_74)) ?_
    show own_Go p e below _ (T_44.setTop (mkF m 75 #[.val (.int (3 : Int32)), .val (.ref a2)] [(.int (3 : Int32)), (.ref b_44), (.ref b_44)]))
    obtain ⟨T_47, h_47, k_47, X_47, e_47, E_47, A_47, st_47⟩ := newP X_44 hx hZ (own_w hw 0 rfl) e_44 (g := (mkF m 75 #[.val (.int (3 : Int32)), .val (.ref a2)] [(.int (3 : Int32)), (.ref b_44), (.ref b_44)])) rfl (hb hby d2_75) rfl (by decide) (cap := 3) (by decide) (by decide) (by decide) (by decide)
    obtain ⟨b_47, g_47⟩ : ∃ z, z = h_44.size := ⟨_, rfl⟩
    rw [← g_47] at A_47 st_47
    have V_47 : Arv Z h_47 b_47 k_47 .char (3 : Int32) [(.int (0 : Int32)), (.int (0 : Int32)), (.int (0 : Int32))] (.int (0 : Int32)) := (Arv.new A_47 (by decide)).pad (pad_rep [] (.int (0 : Int32)) 3)
    refine own_via st_47 ?_
    show own_Go p e below _ (T_47.setTop (mkF m 77 #[.val (.int (3 : Int32)), .val (.ref a2)] [(.ref b_47), (.ref b_44), (.ref b_44)]))
    refine own_via (fun _ => XS.dup X_47.here hx rfl (hb hby d2_77) rfl rfl) ?_
    show own_Go p e below _ (T_47.setTop (mkF m 78 #[.val (.int (3 : Int32)), .val (.ref a2)] [(.ref b_47), (.ref b_47), (.ref b_44), (.ref b_44)]))
    refine own_via (fun _ => XS.iconst X_47.here hx rfl (hb hby d2_78)) ?_
    show own_Go p e below _ (T_47.setTop (mkF m 79 #[.val (.int (3 : Int32)), .val (.ref a2)] [(.int (0 : Int32)), (.ref b_47), (.ref b_47), (.ref b_44), (.ref b_44)]))
    refine own_via (fun _ => XS.aloadN X_47.here hx rfl (hb hby d2_79) rfl rfl) ?_
    show own_Go p e below _ (T_47.setTop (mkF m 80 #[.val (.int (3 : Int32)), .val (.ref a2)] [(.ref a2), (.int (0 : Int32)), (.ref b_47), (.ref b_47), (.ref b_44), (.ref b_44)]))
    refine own_via (fun _ => XS.iconst X_47.here hx rfl (hb hby d2_80)) ?_
    show own_Go p e below _ (T_47.setTop (mkF m 81 #[.val (.int (3 : Int32)), .val (.ref a2)] [(.int (0 : Int32)), (.ref a2), (.int (0 : Int32)), (.ref b_47), (.ref b_47), (.ref b_44), (.ref b_44)]))
    have K_48 : Keep h0 h_44 [] := (Keep.refl h0 []).ext E_44
    have K_49 : Keep h0 h_47 [] := K_48.ext E_47
    obtain ⟨cl_50, Ar_50, q_50, S_50, M_50, H_50, G_50⟩ := (id (A2.keep K_49 nin0))
    have in_50 : ¬ ((0 : Int32) < 0 ∨ cl_50.slots.size ≤ ((0 : Int32)).toNatClampNeg) := inb_of S_50 ⟨by decide, by decide⟩
    refine own_via (X_47.caload hx (j := (0 : Int32)) (v := (.int c0)) (by rw [e_47]; exact Ar_50.1) (State.isArrayOf_alike hZ.alike Ar_50.2.1) Ar_50.2.2 in_50 (Has.at H_50 in_50 rfl) (g := (mkF m 81 #[.val (.int (3 : Int32)), .val (.ref a2)] [(.int (0 : Int32)), (.ref a2), (.int (0 : Int32)), (.ref b_47), (.ref b_47), (.ref b_44), (.ref b_44)])) rfl rfl (hb hby d2_81)) ?_
    show own_Go p e below _ (T_47.setTop (mkF m 82 #[.val (.int (3 : Int32)), .val (.ref a2)] [(.int c0), (.int (0 : Int32)), (.ref b_47), (.ref b_47), (.ref b_44), (.ref b_44)]))
    obtain ⟨cl_51, Ar_51, q_51, S_51, M_51, H_51, G_51⟩ := (id V_47)
    obtain ⟨T_51, h_51, X_51, e_51, W_51, st_51⟩ := stC X_47 hx hZ e_47 Ar_51 (j := (0 : Int32)) (inb_of S_51 ⟨by decide, by decide⟩) (g := (mkF m 82 #[.val (.int (3 : Int32)), .val (.ref a2)] [(.int c0), (.int (0 : Int32)), (.ref b_47), (.ref b_47), (.ref b_44), (.ref b_44)])) rfl rfl (hb hby d2_82)
    have V_51 : Arv Z h_51 b_47 k_47 .char (3 : Int32) [(.int (nar .char c0)), (.int (0 : Int32)), (.int (0 : Int32))] (.int (0 : Int32)) := Arv.set Ar_51 q_51 S_51 M_51 H_51 G_51 (fits_nar_char _) W_51 0 rfl (Nat.le_of_ble_eq_true rfl)
    have N_51 := Fr.snoc X_51 N0 (Nat.le_trans Z0 (Nat.le_trans K_48.1 (Nat.le_of_eq g_47.symm)))
    refine own_via st_51 ?_
    show own_Go p e below _ (T_51.setTop (mkF m 83 #[.val (.int (3 : Int32)), .val (.ref a2)] [(.ref b_47), (.ref b_44), (.ref b_44)]))
    have V_52 : Arv Z h_51 b_47 k_47 .char (3 : Int32) [(.int c0), (.int (0 : Int32)), (.int (0 : Int32))] (.int (0 : Int32)) := by have q := V_51; rwa [own_nar hb0] at q
    refine own_via (fun _ => XS.dup X_51.here hx rfl (hb hby d2_83) rfl rfl) ?_
    show own_Go p e below _ (T_51.setTop (mkF m 84 #[.val (.int (3 : Int32)), .val (.ref a2)] [(.ref b_47), (.ref b_47), (.ref b_44), (.ref b_44)]))
    refine own_via (fun _ => XS.iconst X_51.here hx rfl (hb hby d2_84)) ?_
    show own_Go p e below _ (T_51.setTop (mkF m 85 #[.val (.int (3 : Int32)), .val (.ref a2)] [(.int (1 : Int32)), (.ref b_47), (.ref b_47), (.ref b_44), (.ref b_44)]))
    refine own_via (fun _ => XS.aloadN X_51.here hx rfl (hb hby d2_85) rfl rfl) ?_
    show own_Go p e below _ (T_51.setTop (mkF m 86 #[.val (.int (3 : Int32)), .val (.ref a2)] [(.ref a2), (.int (1 : Int32)), (.ref b_47), (.ref b_47), (.ref b_44), (.ref b_44)]))
    refine own_via (fun _ => XS.iconst X_51.here hx rfl (hb hby d2_86)) ?_
    show own_Go p e below _ (T_51.setTop (mkF m 87 #[.val (.int (3 : Int32)), .val (.ref a2)] [(.int (1 : Int32)), (.ref a2), (.int (1 : Int32)), (.ref b_47), (.ref b_47), (.ref b_44), (.ref b_44)]))
    have K_53 : Keep h0 h_51 [] := Keep.wr (ws := []) K_49 W_51 (Or.inr (Nat.le_trans K_48.1 (Nat.le_of_eq g_47.symm)))
    obtain ⟨cl_54, Ar_54, q_54, S_54, M_54, H_54, G_54⟩ := (id (A2.keep K_53 nin0))
    have in_54 : ¬ ((1 : Int32) < 0 ∨ cl_54.slots.size ≤ ((1 : Int32)).toNatClampNeg) := inb_of S_54 ⟨by decide, by decide⟩
    refine own_via (X_51.caload hx (j := (1 : Int32)) (v := (.int c1)) (by rw [e_51]; exact Ar_54.1) (State.isArrayOf_alike hZ.alike Ar_54.2.1) Ar_54.2.2 in_54 (Has.at H_54 in_54 rfl) (g := (mkF m 87 #[.val (.int (3 : Int32)), .val (.ref a2)] [(.int (1 : Int32)), (.ref a2), (.int (1 : Int32)), (.ref b_47), (.ref b_47), (.ref b_44), (.ref b_44)])) rfl rfl (hb hby d2_87)) ?_
    show own_Go p e below _ (T_51.setTop (mkF m 88 #[.val (.int (3 : Int32)), .val (.ref a2)] [(.int c1), (.int (1 : Int32)), (.ref b_47), (.ref b_47), (.ref b_44), (.ref b_44)]))
    obtain ⟨cl_55, Ar_55, q_55, S_55, M_55, H_55, G_55⟩ := (id V_52)
    obtain ⟨T_55, h_55, X_55, e_55, W_55, st_55⟩ := stC X_51 hx hZ e_51 Ar_55 (j := (1 : Int32)) (inb_of S_55 ⟨by decide, by decide⟩) (g := (mkF m 88 #[.val (.int (3 : Int32)), .val (.ref a2)] [(.int c1), (.int (1 : Int32)), (.ref b_47), (.ref b_47), (.ref b_44), (.ref b_44)])) rfl rfl (hb hby d2_88)
    have V_55 : Arv Z h_55 b_47 k_47 .char (3 : Int32) [(.int c0), (.int (nar .char c1)), (.int (0 : Int32))] (.int (0 : Int32)) := Arv.set Ar_55 q_55 S_55 M_55 H_55 G_55 (fits_nar_char _) W_55 1 rfl (Nat.le_of_ble_eq_true rfl)
    have N_55 := Fr.snoc X_55 N_51 (Nat.le_trans Z0 (Nat.le_trans K_48.1 (Nat.le_of_eq g_47.symm)))
    refine own_via st_55 ?_
    show own_Go p e below _ (T_55.setTop (mkF m 89 #[.val (.int (3 : Int32)), .val (.ref a2)] [(.ref b_47), (.ref b_44), (.ref b_44)]))
    have V_56 : Arv Z h_55 b_47 k_47 .char (3 : Int32) [(.int c0), (.int c1), (.int (0 : Int32))] (.int (0 : Int32)) := by have q := V_55; rwa [own_nar hb1] at q
    refine own_via (fun _ => XS.dup X_55.here hx rfl (hb hby d2_89) rfl rfl) ?_
    show own_Go p e below _ (T_55.setTop (mkF m 90 #[.val (.int (3 : Int32)), .val (.ref a2)] [(.ref b_47), (.ref b_47), (.ref b_44), (.ref b_44)]))
    refine own_via (fun _ => XS.iconst X_55.here hx rfl (hb hby d2_90)) ?_
    show own_Go p e below _ (T_55.setTop (mkF m 91 #[.val (.int (3 : Int32)), .val (.ref a2)] [(.int (2 : Int32)), (.ref b_47), (.ref b_47), (.ref b_44), (.ref b_44)]))
    refine own_via (fun _ => XS.aloadN X_55.here hx rfl (hb hby d2_91) rfl rfl) ?_
    show own_Go p e below _ (T_55.setTop (mkF m 92 #[.val (.int (3 : Int32)), .val (.ref a2)] [(.ref a2), (.int (2 : Int32)), (.ref b_47), (.ref b_47), (.ref b_44), (.ref b_44)]))
    refine own_via (fun _ => XS.iconst X_55.here hx rfl (hb hby d2_92)) ?_
    show own_Go p e below _ (T_55.setTop (mkF m 93 #[.val (.int (3 : Int32)), .val (.ref a2)] [(.int (2 : Int32)), (.ref a2), (.int (2 : Int32)), (.ref b_47), (.ref b_47), (.ref b_44), (.ref b_44)]))
    have K_57 : Keep h0 h_55 [] := Keep.wr (ws := []) K_53 W_55 (Or.inr (Nat.le_trans K_48.1 (Nat.le_of_eq g_47.symm)))
    obtain ⟨cl_58, Ar_58, q_58, S_58, M_58, H_58, G_58⟩ := (id (A2.keep K_57 nin0))
    have in_58 : ¬ ((2 : Int32) < 0 ∨ cl_58.slots.size ≤ ((2 : Int32)).toNatClampNeg) := inb_of S_58 ⟨by decide, by decide⟩
    refine own_via (X_55.caload hx (j := (2 : Int32)) (v := (.int c2)) (by rw [e_55]; exact Ar_58.1) (State.isArrayOf_alike hZ.alike Ar_58.2.1) Ar_58.2.2 in_58 (Has.at H_58 in_58 rfl) (g := (mkF m 93 #[.val (.int (3 : Int32)), .val (.ref a2)] [(.int (2 : Int32)), (.ref a2), (.int (2 : Int32)), (.ref b_47), (.ref b_47), (.ref b_44), (.ref b_44)])) rfl rfl (hb hby d2_93)) ?_
    show own_Go p e below _ (T_55.setTop (mkF m 94 #[.val (.int (3 : Int32)), .val (.ref a2)] [(.int c2), (.int (2 : Int32)), (.ref b_47), (.ref b_47), (.ref b_44), (.ref b_44)]))
    obtain ⟨cl_59, Ar_59, q_59, S_59, M_59, H_59, G_59⟩ := (id V_56)
    obtain ⟨T_59, h_59, X_59, e_59, W_59, st_59⟩ := stC X_55 hx hZ e_55 Ar_59 (j := (2 : Int32)) (inb_of S_59 ⟨by decide, by decide⟩) (g := (mkF m 94 #[.val (.int (3 : Int32)), .val (.ref a2)] [(.int c2), (.int (2 : Int32)), (.ref b_47), (.ref b_47), (.ref b_44), (.ref b_44)])) rfl rfl (hb hby d2_94)
    have V_59 : Arv Z h_59 b_47 k_47 .char (3 : Int32) [(.int c0), (.int c1), (.int (nar .char c2))] (.int (0 : Int32)) := Arv.set Ar_59 q_59 S_59 M_59 H_59 G_59 (fits_nar_char _) W_59 2 rfl (Nat.le_of_ble_eq_true rfl)
    have N_59 := Fr.snoc X_59 N_55 (Nat.le_trans Z0 (Nat.le_trans K_48.1 (Nat.le_of_eq g_47.symm)))
    refine own_via st_59 ?_
    show own_Go p e below _ (T_59.setTop (mkF m 95 #[.val (.int (3 : Int32)), .val (.ref a2)] [(.ref b_47), (.ref b_44), (.ref b_44)]))
    have V_60 : Arv Z h_59 b_47 k_47 .char (3 : Int32) [(.int c0), (.int c1), (.int c2)] (.int (0 : Int32)) := by have q := V_59; rwa [own_nar hb2] at q
    have hp : ∀ c ∈ ([c0, c1, c2] : List Int32), ¬ c < 0 ∧ ¬ (255 : Int32) < c := by intro c hc; simp only [List.mem_cons, List.not_mem_nil, or_false] at hc; rcases hc with rfl | rfl | rfl <;> assumption
    have K_61 : Keep h_44 h_47 [] := (Keep.refl h_44 []).ext E_47
    have K_62 : Keep h_44 h_51 [] := Keep.wr (ws := []) K_61 W_51 (Or.inr (Nat.le_of_eq g_47.symm))
    have K_63 : Keep h_44 h_55 [] := Keep.wr (ws := []) K_62 W_55 (Or.inr (Nat.le_of_eq g_47.symm))
    have K_64 : Keep h_44 h_59 [] := Keep.wr (ws := []) K_63 W_59 (Or.inr (Nat.le_of_eq g_47.symm))
    have K_65 : Keep h0 h_59 [] := Keep.wr (ws := []) K_57 W_59 (Or.inr (Nat.le_trans K_48.1 (Nat.le_of_eq g_47.symm)))
    obtain ⟨_, _, ⟨T_66, L_66, k_66, n_66⟩, -, X_66, ⟨Lc_66, hQ_66, l_66, y_66, z_66⟩, st_66⟩ := X_59.specialBack hx (y := (⟨"java/lang/String", "<init>", "([C)V"⟩ : MethodName)) rfl hown (mvT hZ (own_w hw 11 rfl)) (mvT hZ (own_w hw 12 rfl)) (mvT hZ (own_w hw 13 rfl)) (by decide) (StrChars.Road.backV (W := 1) hZ (own_hwords hw) (kI := 4) (own_w hw 9 rfl) (cs := ([c0, c1, c2] : List Int32)) (bs := ([c0, c1, c2] : List Int32).map (fun c => c.toInt8.toInt32)) (n := 3) (Nat.le_trans Z0 (Nat.le_of_eq g_44.symm)) (Nat.le_trans Z0 K_65.1) (A_44.keep K_64) (F_46.keep K_64 nin0) (F_45.keep K_64 nin0) V_60 (Scs.ext (O0.keep K_65 all0).2) hcs rfl rfl (by decide) (by decide) hp rfl (by decide) (by decide)) (g := (mkF m 95 #[.val (.int (3 : Int32)), .val (.ref a2)] [(.ref b_47), (.ref b_44), (.ref b_44)])) rfl (by rw [hml]; rfl) (Steps.refl _) (a := b_44) (argsL := [(.ref b_47)]) (rest := [(.ref b_44)]) (lenOf pd_4 rfl) rfl (by show 2 * 0 + _ ≤ _; exact Nat.le_of_eq rfl) (hb hby d2_95) (fun _ _ => ⟨rfl, e_59, (by decide : 2 + 1 ≤ _), (by decide : 7 + 3 ≤ _)⟩)
    dsimp only [Pt.U, Pt.locs, Pt.cells, Pt.slots] at X_66 l_66 y_66 z_66 st_66 hQ_66
    subst l_66 y_66 z_66
    obtain ⟨rfl, Nq_66, K_66q, EX_66, FC_66, t_66, kb_66, -, ft_66, -, FV_66, FA_66⟩ := hQ_66
    have N_66 := Fr.app N_59 Nq_66
    refine own_via (fun _ k => st_66.trans k) ?_
    show own_Go p e below _ (T_66.setTop (mkF m 98 #[.val (.int (3 : Int32)), .val (.ref a2)] [(.ref b_44)]))
    have K_67 : Keep h0 T_66.heap [] := Keep.trans (ws := []) K_65 K_66q (allS (Or.inr (Nat.le_of_eq g_44.symm)) all0)
    exact own_retvW X_66 hS0 (Nat.le_trans (Nat.zero_le _) K_67.1) Bd.notSynchronized hx Bd.returns rfl (Or.inr (Or.inr (Or.inr (Or.inr ⟨rfl, rfl, rfl⟩)))) (hb hby d2_98) (by decide) (by decide) ⟨b_44, rfl, N_66, K_67, (Nat.le_of_eq g_44.symm), EX_66, ⟨EX_66, FC_66, ⟨t_66, kb_66, FV_66, FA_66⟩, hp, (by simp)⟩, (own_CHstay (J0.keep K_67 all0) hZ (own_EW hw) X_66.warmed)⟩
  · show own_Go p e below _ (s₁.setTop (mkF m 0 #[.val (.int (4 : Int32)), .val (.ref a2)] []))
    refine own_via (fun _ => XS.iloadN X0.here hx rfl (hb hby d2_0) rfl) ?_
    show own_Go p e below _ (s₁.setTop (mkF m 1 #[.val (.int (4 : Int32)), .val (.ref a2)] [(.int (4 : Int32))]))
    refine own_via (fun _ => XS.ifYes X0.here hx rfl (pc0 := 1) (pc' := 15) rfl (hb hby d2_1) rfl ((if0 _ _).trans (tlt ((by decide) : (0 : Int32) < (4 : Int32))).2.2.1) (by decide) (by decide)) ?_
    show own_Go p e below _ (s₁.setTop (mkF m 15 #[.val (.int (4 : Int32)), .val (.ref a2)] []))
    refine own_via (fun _ => XS.iloadN X0.here hx rfl (hb hby d2_15) rfl) ?_
    show own_Go p e below _ (s₁.setTop (mkF m 16 #[.val (.int (4 : Int32)), .val (.ref a2)] [(.int (4 : Int32))]))
    refine own_via (fun _ => XS.iconst X0.here hx rfl (hb hby d2_16)) ?_
    show own_Go p e below _ (s₁.setTop (mkF m 17 #[.val (.int (4 : Int32)), .val (.ref a2)] [(.int (1 : Int32)), (.int (4 : Int32))]))
    refine own_via (fun _ => XS.icmpYes X0.here hx rfl (pc0 := 17) (pc' := 37) rfl (hb hby d2_17) rfl (feq ((by decide) : ¬ ((4 : Int32) = (1 : Int32)))).2 (by decide) (by decide)) ?_
    show own_Go p e below _ (s₁.setTop (mkF m 37 #[.val (.int (4 : Int32)), .val (.ref a2)] []))
    refine own_via (fun _ => XS.iloadN X0.here hx rfl (hb hby d2_37) rfl) ?_
    show own_Go p e below _ (s₁.setTop (mkF m 38 #[.val (.int (4 : Int32)), .val (.ref a2)] [(.int (4 : Int32))]))
    refine own_via (fun _ => XS.iconst X0.here hx rfl (hb hby d2_38)) ?_
    show own_Go p e below _ (s₁.setTop (mkF m 39 #[.val (.int (4 : Int32)), .val (.ref a2)] [(.int (2 : Int32)), (.int (4 : Int32))]))
    refine own_via (fun _ => XS.icmpYes X0.here hx rfl (pc0 := 39) (pc' := 65) rfl (hb hby d2_39) rfl (feq ((by decide) : ¬ ((4 : Int32) = (2 : Int32)))).2 (by decide) (by decide)) ?_
    show own_Go p e below _ (s₁.setTop (mkF m 65 #[.val (.int (4 : Int32)), .val (.ref a2)] []))
    refine own_via (fun _ => XS.iloadN X0.here hx rfl (hb hby d2_65) rfl) ?_
    show own_Go p e below _ (s₁.setTop (mkF m 66 #[.val (.int (4 : Int32)), .val (.ref a2)] [(.int (4 : Int32))]))
    refine own_via (fun _ => XS.iconst X0.here hx rfl (hb hby d2_66)) ?_
    show own_Go p e below _ (s₁.setTop (mkF m 67 #[.val (.int (4 : Int32)), .val (.ref a2)] [(.int (3 : Int32)), (.int (4 : Int32))]))
    refine own_via (fun _ => XS.icmpYes X0.here hx rfl (pc0 := 67) (pc' := 99) rfl (hb hby d2_67) rfl (feq ((by decide) : ¬ ((4 : Int32) = (3 : Int32)))).2 (by decide) (by decide)) ?_
    show own_Go p e below _ (s₁.setTop (mkF m 99 #[.val (.int (4 : Int32)), .val (.ref a2)] []))
    refine own_via (fun _ => XS.iloadN X0.here hx rfl (hb hby d2_99) rfl) ?_
    show own_Go p e below _ (s₁.setTop (mkF m 100 #[.val (.int (4 : Int32)), .val (.ref a2)] [(.int (4 : Int32))]))
    refine own_via (fun _ => XS.iconst X0.here hx rfl (hb hby d2_100)) ?_
    show own_Go p e below _ (s₁.setTop (mkF m 101 #[.val (.int (4 : Int32)), .val (.ref a2)] [(.int (4 : Int32)), (.int (4 : Int32))]))
    refine own_via (fun _ => XS.icmpNo X0.here hx rfl (hb hby d2_101) rfl (teq ((by decide) : (4 : Int32) = (4 : Int32))).2) ?_
    show own_Go p e below _ (s₁.setTop (mkF m 104 #[.val (.int (4 : Int32)), .val (.ref a2)] []))
    obtain ⟨T_68, h_68, X_68, e_68, E_68, A_68, D_68, -, st_68⟩ := newO X0 hx hZ hown (own_w hw 8 rfl) (own_w hw 9 rfl) (own_w hw 10 rfl) e0 (g := (mkF m 104 #[.val (.int (4 : Int32)), .val (.ref a2)] [])) rfl (hb hby d2_104) (by decide) (by decide)
    obtain ⟨b_68, g_68⟩ : ∃ z, z = h0.size := ⟨_, rfl⟩
    rw [← g_68] at A_68 D_68 st_68
    have F_69 : Fld Z h_68 b_68 "java/lang/String" "coder" "B" (.int (0 : Int32)) := D_68 (Or.inr (own_w hw 34 rfl)) (ty := .byte) (by decide)
    have F_70 : Fld Z h_68 b_68 "java/lang/String" "value" "[B" .null := D_68 (Or.inr (own_w hw 36 rfl)) (ty := (.array .byte)) (by decide)
    refine own_via st_68 ?_
    show own_Go p e below _ (T_68.setTop (mkF m 107 #[.val (.int (4 : Int32)), .val (.ref a2)] [(.ref b_68)]))
    refine own_via (fun _ => XS.dup X_68.here hx rfl (hb hby d2_107) rfl rfl) ?_
    show own_Go p e below _ (T_68.setTop (mkF m 108 #[.val (.int (4 : Int32)), .val (.ref a2)] [(.ref b_68), (.ref b_68)]))
    refine own_via (fun _ => XS.iconst X_68.here hx rfl (hb hby d2_108)) ?_
    show own_Go p e below _ (T_68.setTop (mkF m 109 #[.val (.int (4 : Int32)), .val (.ref a2)] [(.int (4 : Int32)), (.ref b_68), (.ref b_68)]))
    obtain ⟨T_71, h_71, k_71, X_71, e_71, E_71, A_71, st_71⟩ := newP X_68 hx hZ (own_w hw 0 rfl) e_68 (g := (mkF m 109 #[.val (.int (4 : Int32)), .val (.ref a2)] [(.int (4 : Int32)), (.ref b_68), (.ref b_68)])) rfl (hb hby d2_109) rfl (by decide) (cap := 4) (by decide) (by decide) (by decide) (by decide)
    obtain ⟨b_71, g_71⟩ : ∃ z, z = h_68.size := ⟨_, rfl⟩
    rw [← g_71] at A_71 st_71
    have V_71 : Arv Z h_71 b_71 k_71 .char (4 : Int32) [(.int (0 : Int32)), (.int (0 : Int32)), (.int (0 : Int32)), (.int (0 : Int32))] (.int (0 : Int32)) := (Arv.new A_71 (by decide)).pad (pad_rep [] (.int (0 : Int32)) 4)
    refine own_via st_71 ?_
    show own_Go p e below _ (T_71.setTop (mkF m 111 #[.val (.int (4 : Int32)), .val (.ref a2)] [(.ref b_71), (.ref b_68), (.ref b_68)]))
    refine own_via (fun _ => XS.dup X_71.here hx rfl (hb hby d2_111) rfl rfl) ?_
    show own_Go p e below _ (T_71.setTop (mkF m 112 #[.val (.int (4 : Int32)), .val (.ref a2)] [(.ref b_71), (.ref b_71), (.ref b_68), (.ref b_68)]))
    refine own_via (fun _ => XS.iconst X_71.here hx rfl (hb hby d2_112)) ?_
    show own_Go p e below _ (T_71.setTop (mkF m 113 #[.val (.int (4 : Int32)), .val (.ref a2)] [(.int (0 : Int32)), (.ref b_71), (.ref b_71), (.ref b_68), (.ref b_68)]))
    refine own_via (fun _ => XS.aloadN X_71.here hx rfl (hb hby d2_113) rfl rfl) ?_
    show own_Go p e below _ (T_71.setTop (mkF m 114 #[.val (.int (4 : Int32)), .val (.ref a2)] [(.ref a2), (.int (0 : Int32)), (.ref b_71), (.ref b_71), (.ref b_68), (.ref b_68)]))
    refine own_via (fun _ => XS.iconst X_71.here hx rfl (hb hby d2_114)) ?_
    show own_Go p e below _ (T_71.setTop (mkF m 115 #[.val (.int (4 : Int32)), .val (.ref a2)] [(.int (0 : Int32)), (.ref a2), (.int (0 : Int32)), (.ref b_71), (.ref b_71), (.ref b_68), (.ref b_68)]))
    have K_72 : Keep h0 h_68 [] := (Keep.refl h0 []).ext E_68
    have K_73 : Keep h0 h_71 [] := K_72.ext E_71
    obtain ⟨cl_74, Ar_74, q_74, S_74, M_74, H_74, G_74⟩ := (id (A2.keep K_73 nin0))
    have in_74 : ¬ ((0 : Int32) < 0 ∨ cl_74.slots.size ≤ ((0 : Int32)).toNatClampNeg) := inb_of S_74 ⟨by decide, by decide⟩
    refine own_via (X_71.caload hx (j := (0 : Int32)) (v := (.int c0)) (by rw [e_71]; exact Ar_74.1) (State.isArrayOf_alike hZ.alike Ar_74.2.1) Ar_74.2.2 in_74 (Has.at H_74 in_74 rfl) (g := (mkF m 115 #[.val (.int (4 : Int32)), .val (.ref a2)] [(.int (0 : Int32)), (.ref a2), (.int (0 : Int32)), (.ref b_71), (.ref b_71), (.ref b_68), (.ref b_68)])) rfl rfl (hb hby d2_115)) ?_
    show own_Go p e below _ (T_71.setTop (mkF m 116 #[.val (.int (4 : Int32)), .val (.ref a2)] [(.int c0), (.int (0 : Int32)), (.ref b_71), (.ref b_71), (.ref b_68), (.ref b_68)]))
    obtain ⟨cl_75, Ar_75, q_75, S_75, M_75, H_75, G_75⟩ := (id V_71)
    obtain ⟨T_75, h_75, X_75, e_75, W_75, st_75⟩ := stC X_71 hx hZ e_71 Ar_75 (j := (0 : Int32)) (inb_of S_75 ⟨by decide, by decide⟩) (g := (mkF m 116 #[.val (.int (4 : Int32)), .val (.ref a2)] [(.int c0), (.int (0 : Int32)), (.ref b_71), (.ref b_71), (.ref b_68), (.ref b_68)])) rfl rfl (hb hby d2_116)
    have V_75 : Arv Z h_75 b_71 k_71 .char (4 : Int32) [(.int (nar .char c0)), (.int (0 : Int32)), (.int (0 : Int32)), (.int (0 : Int32))] (.int (0 : Int32)) := Arv.set Ar_75 q_75 S_75 M_75 H_75 G_75 (fits_nar_char _) W_75 0 rfl (Nat.le_of_ble_eq_true rfl)
    have N_75 := Fr.snoc X_75 N0 (Nat.le_trans Z0 (Nat.le_trans K_72.1 (Nat.le_of_eq g_71.symm)))
    refine own_via st_75 ?_
    show own_Go p e below _ (T_75.setTop (mkF m 117 #[.val (.int (4 : Int32)), .val (.ref a2)] [(.ref b_71), (.ref b_68), (.ref b_68)]))
    have V_76 : Arv Z h_75 b_71 k_71 .char (4 : Int32) [(.int c0), (.int (0 : Int32)), (.int (0 : Int32)), (.int (0 : Int32))] (.int (0 : Int32)) := by have q := V_75; rwa [own_nar hb0] at q
    refine own_via (fun _ => XS.dup X_75.here hx rfl (hb hby d2_117) rfl rfl) ?_
    show own_Go p e below _ (T_75.setTop (mkF m 118 #[.val (.int (4 : Int32)), .val (.ref a2)] [(.ref b_71), (.ref b_71), (.ref b_68), (.ref b_68)]))
    refine own_via (fun _ => XS.iconst X_75.here hx rfl (hb hby d2_118)) ?_
    show own_Go p e below _ (T_75.setTop (mkF m 119 #[.val (.int (4 : Int32)), .val (.ref a2)] [(.int (1 : Int32)), (.ref b_71), (.ref b_71), (.ref b_68), (.ref b_68)]))
    refine own_via (fun _ => XS.aloadN X_75.here hx rfl (hb hby d2_119) rfl rfl) ?_
    show own_Go p e below _ (T_75.setTop (mkF m 120 #[.val (.int (4 : Int32)), .val (.ref a2)] [(.ref a2), (.int (1 : Int32)), (.ref b_71), (.ref b_71), (.ref b_68), (.ref b_68)]))
    refine own_via (fun _ => XS.iconst X_75.here hx rfl (hb hby d2_120)) ?_
    show own_Go p e below _ (T_75.setTop (mkF m 121 #[.val (.int (4 : Int32)), .val (.ref a2)] [(.int (1 : Int32)), (.ref a2), (.int (1 : Int32)), (.ref b_71), (.ref b_71), (.ref b_68), (.ref b_68)]))
    have K_77 : Keep h0 h_75 [] := Keep.wr (ws := []) K_73 W_75 (Or.inr (Nat.le_trans K_72.1 (Nat.le_of_eq g_71.symm)))
    obtain ⟨cl_78, Ar_78, q_78, S_78, M_78, H_78, G_78⟩ := (id (A2.keep K_77 nin0))
    have in_78 : ¬ ((1 : Int32) < 0 ∨ cl_78.slots.size ≤ ((1 : Int32)).toNatClampNeg) := inb_of S_78 ⟨by decide, by decide⟩
    refine own_via (X_75.caload hx (j := (1 : Int32)) (v := (.int c1)) (by rw [e_75]; exact Ar_78.1) (State.isArrayOf_alike hZ.alike Ar_78.2.1) Ar_78.2.2 in_78 (Has.at H_78 in_78 rfl) (g := (mkF m 121 #[.val (.int (4 : Int32)), .val (.ref a2)] [(.int (1 : Int32)), (.ref a2), (.int (1 : Int32)), (.ref b_71), (.ref b_71), (.ref b_68), (.ref b_68)])) rfl rfl (hb hby d2_121)) ?_
    show own_Go p e below _ (T_75.setTop (mkF m 122 #[.val (.int (4 : Int32)), .val (.ref a2)] [(.int c1), (.int (1 : Int32)), (.ref b_71), (.ref b_71), (.ref b_68), (.ref b_68)]))
    obtain ⟨cl_79, Ar_79, q_79, S_79, M_79, H_79, G_79⟩ := (id V_76)
    obtain ⟨T_79, h_79, X_79, e_79, W_79, st_79⟩ := stC X_75 hx hZ e_75 Ar_79 (j := (1 : Int32)) (inb_of S_79 ⟨by decide, by decide⟩) (g := (mkF m 122 #[.val (.int (4 : Int32)), .val (.ref a2)] [(.int c1), (.int (1 : Int32)), (.ref b_71), (.ref b_71), (.ref b_68), (.ref b_68)])) rfl rfl (hb hby d2_122)
    have V_79 : Arv Z h_79 b_71 k_71 .char (4 : Int32) [(.int c0), (.int (nar .char c1)), (.int (0 : Int32)), (.int (0 : Int32))] (.int (0 : Int32)) := Arv.set Ar_79 q_79 S_79 M_79 H_79 G_79 (fits_nar_char _) W_79 1 rfl (Nat.le_of_ble_eq_true rfl)
    have N_79 := Fr.snoc X_79 N_75 (Nat.le_trans Z0 (Nat.le_trans K_72.1 (Nat.le_of_eq g_71.symm)))
    refine own_via st_79 ?_
    show own_Go p e below _ (T_79.setTop (mkF m 123 #[.val (.int (4 : Int32)), .val (.ref a2)] [(.ref b_71), (.ref b_68), (.ref b_68)]))
    have V_80 : Arv Z h_79 b_71 k_71 .char (4 : Int32) [(.int c0), (.int c1), (.int (0 : Int32)), (.int (0 : Int32))] (.int (0 : Int32)) := by have q := V_79; rwa [own_nar hb1] at q
    refine own_via (fun _ => XS.dup X_79.here hx rfl (hb hby d2_123) rfl rfl) ?_
    show own_Go p e below _ (T_79.setTop (mkF m 124 #[.val (.int (4 : Int32)), .val (.ref a2)] [(.ref b_71), (.ref b_71), (.ref b_68), (.ref b_68)]))
    refine own_via (fun _ => XS.iconst X_79.here hx rfl (hb hby d2_124)) ?_
    show own_Go p e below _ (T_79.setTop (mkF m 125 #[.val (.int (4 : Int32)), .val (.ref a2)] [(.int (2 : Int32)), (.ref b_71), (.ref b_71), (.ref b_68), (.ref b_68)]))
    refine own_via (fun _ => XS.aloadN X_79.here hx rfl (hb hby d2_125) rfl rfl) ?_
    show own_Go p e below _ (T_79.setTop (mkF m 126 #[.val (.int (4 : Int32)), .val (.ref a2)] [(.ref a2), (.int (2 : Int32)), (.ref b_71), (.ref b_71), (.ref b_68), (.ref b_68)]))
    refine own_via (fun _ => XS.iconst X_79.here hx rfl (hb hby d2_126)) ?_
    show own_Go p e below _ (T_79.setTop (mkF m 127 #[.val (.int (4 : Int32)), .val (.ref a2)] [(.int (2 : Int32)), (.ref a2), (.int (2 : Int32)), (.ref b_71), (.ref b_71), (.ref b_68), (.ref b_68)]))
    have K_81 : Keep h0 h_79 [] := Keep.wr (ws := []) K_77 W_79 (Or.inr (Nat.le_trans K_72.1 (Nat.le_of_eq g_71.symm)))
    obtain ⟨cl_82, Ar_82, q_82, S_82, M_82, H_82, G_82⟩ := (id (A2.keep K_81 nin0))
    have in_82 : ¬ ((2 : Int32) < 0 ∨ cl_82.slots.size ≤ ((2 : Int32)).toNatClampNeg) := inb_of S_82 ⟨by decide, by decide⟩
    refine own_via (X_79.caload hx (j := (2 : Int32)) (v := (.int c2)) (by rw [e_79]; exact Ar_82.1) (State.isArrayOf_alike hZ.alike Ar_82.2.1) Ar_82.2.2 in_82 (Has.at H_82 in_82 rfl) (g := (mkF m 127 #[.val (.int (4 : Int32)), .val (.ref a2)] [(.int (2 : Int32)), (.ref a2), (.int (2 : Int32)), (.ref b_71), (.ref b_71), (.ref b_68), (.ref b_68)])) rfl rfl (hb hby d2_127)) ?_
    show own_Go p e below _ (T_79.setTop (mkF m 128 #[.val (.int (4 : Int32)), .val (.ref a2)] [(.int c2), (.int (2 : Int32)), (.ref b_71), (.ref b_71), (.ref b_68), (.ref b_68)]))
    obtain ⟨cl_83, Ar_83, q_83, S_83, M_83, H_83, G_83⟩ := (id V_80)
    obtain ⟨T_83, h_83, X_83, e_83, W_83, st_83⟩ := stC X_79 hx hZ e_79 Ar_83 (j := (2 : Int32)) (inb_of S_83 ⟨by decide, by decide⟩) (g := (mkF m 128 #[.val (.int (4 : Int32)), .val (.ref a2)] [(.int c2), (.int (2 : Int32)), (.ref b_71), (.ref b_71), (.ref b_68), (.ref b_68)])) rfl rfl (hb hby d2_128)
    have V_83 : Arv Z h_83 b_71 k_71 .char (4 : Int32) [(.int c0), (.int c1), (.int (nar .char c2)), (.int (0 : Int32))] (.int (0 : Int32)) := Arv.set Ar_83 q_83 S_83 M_83 H_83 G_83 (fits_nar_char _) W_83 2 rfl (Nat.le_of_ble_eq_true rfl)
    have N_83 := Fr.snoc X_83 N_79 (Nat.le_trans Z0 (Nat.le_trans K_72.1 (Nat.le_of_eq g_71.symm)))
    refine own_via st_83 ?_
    show own_Go p e below _ (T_83.setTop (mkF m 129 #[.val (.int (4 : Int32)), .val (.ref a2)] [(.ref b_71), (.ref b_68), (.ref b_68)]))
    have V_84 : Arv Z h_83 b_71 k_71 .char (4 : Int32) [(.int c0), (.int c1), (.int c2), (.int (0 : Int32))] (.int (0 : Int32)) := by have q := V_83; rwa [own_nar hb2] at q
    refine own_via (fun _ => XS.dup X_83.here hx rfl (hb hby d2_129) rfl rfl) ?_
    show own_Go p e below _ (T_83.setTop (mkF m 130 #[.val (.int (4 : Int32)), .val (.ref a2)] [(.ref b_71), (.ref b_71), (.ref b_68), (.ref b_68)]))
    refine own_via (fun _ => XS.iconst X_83.here hx rfl (hb hby d2_130)) ?_
    show own_Go p e below _ (T_83.setTop (mkF m 131 #[.val (.int (4 : Int32)), .val (.ref a2)] [(.int (3 : Int32)), (.ref b_71), (.ref b_71), (.ref b_68), (.ref b_68)]))
    refine own_via (fun _ => XS.aloadN X_83.here hx rfl (hb hby d2_131) rfl rfl) ?_
    show own_Go p e below _ (T_83.setTop (mkF m 132 #[.val (.int (4 : Int32)), .val (.ref a2)] [(.ref a2), (.int (3 : Int32)), (.ref b_71), (.ref b_71), (.ref b_68), (.ref b_68)]))
    refine own_via (fun _ => XS.iconst X_83.here hx rfl (hb hby d2_132)) ?_
    show own_Go p e below _ (T_83.setTop (mkF m 133 #[.val (.int (4 : Int32)), .val (.ref a2)] [(.int (3 : Int32)), (.ref a2), (.int (3 : Int32)), (.ref b_71), (.ref b_71), (.ref b_68), (.ref b_68)]))
    have K_85 : Keep h0 h_83 [] := Keep.wr (ws := []) K_81 W_83 (Or.inr (Nat.le_trans K_72.1 (Nat.le_of_eq g_71.symm)))
    obtain ⟨cl_86, Ar_86, q_86, S_86, M_86, H_86, G_86⟩ := (id (A2.keep K_85 nin0))
    have in_86 : ¬ ((3 : Int32) < 0 ∨ cl_86.slots.size ≤ ((3 : Int32)).toNatClampNeg) := inb_of S_86 ⟨by decide, by decide⟩
    refine own_via (X_83.caload hx (j := (3 : Int32)) (v := (.int c3)) (by rw [e_83]; exact Ar_86.1) (State.isArrayOf_alike hZ.alike Ar_86.2.1) Ar_86.2.2 in_86 (Has.at H_86 in_86 rfl) (g := (mkF m 133 #[.val (.int (4 : Int32)), .val (.ref a2)] [(.int (3 : Int32)), (.ref a2), (.int (3 : Int32)), (.ref b_71), (.ref b_71), (.ref b_68), (.ref b_68)])) rfl rfl (hb hby d2_133)) ?_
    show own_Go p e below _ (T_83.setTop (mkF m 134 #[.val (.int (4 : Int32)), .val (.ref a2)] [(.int c3), (.int (3 : Int32)), (.ref b_71), (.ref b_71), (.ref b_68), (.ref b_68)]))
    obtain ⟨cl_87, Ar_87, q_87, S_87, M_87, H_87, G_87⟩ := (id V_84)
    obtain ⟨T_87, h_87, X_87, e_87, W_87, st_87⟩ := stC X_83 hx hZ e_83 Ar_87 (j := (3 : Int32)) (inb_of S_87 ⟨by decide, by decide⟩) (g := (mkF m 134 #[.val (.int (4 : Int32)), .val (.ref a2)] [(.int c3), (.int (3 : Int32)), (.ref b_71), (.ref b_71), (.ref b_68), (.ref b_68)])) rfl rfl (hb hby d2_134)
    have V_87 : Arv Z h_87 b_71 k_71 .char (4 : Int32) [(.int c0), (.int c1), (.int c2), (.int (nar .char c3))] (.int (0 : Int32)) := Arv.set Ar_87 q_87 S_87 M_87 H_87 G_87 (fits_nar_char _) W_87 3 rfl (Nat.le_of_ble_eq_true rfl)
    have N_87 := Fr.snoc X_87 N_83 (Nat.le_trans Z0 (Nat.le_trans K_72.1 (Nat.le_of_eq g_71.symm)))
    refine own_via st_87 ?_
    show own_Go p e below _ (T_87.setTop (mkF m 135 #[.val (.int (4 : Int32)), .val (.ref a2)] [(.ref b_71), (.ref b_68), (.ref b_68)]))
    have V_88 : Arv Z h_87 b_71 k_71 .char (4 : Int32) [(.int c0), (.int c1), (.int c2), (.int c3)] (.int (0 : Int32)) := by have q := V_87; rwa [own_nar hb3] at q
    have hp : ∀ c ∈ ([c0, c1, c2, c3] : List Int32), ¬ c < 0 ∧ ¬ (255 : Int32) < c := by intro c hc; simp only [List.mem_cons, List.not_mem_nil, or_false] at hc; rcases hc with rfl | rfl | rfl | rfl <;> assumption
    have K_89 : Keep h_68 h_71 [] := (Keep.refl h_68 []).ext E_71
    have K_90 : Keep h_68 h_75 [] := Keep.wr (ws := []) K_89 W_75 (Or.inr (Nat.le_of_eq g_71.symm))
    have K_91 : Keep h_68 h_79 [] := Keep.wr (ws := []) K_90 W_79 (Or.inr (Nat.le_of_eq g_71.symm))
    have K_92 : Keep h_68 h_83 [] := Keep.wr (ws := []) K_91 W_83 (Or.inr (Nat.le_of_eq g_71.symm))
    have K_93 : Keep h_68 h_87 [] := Keep.wr (ws := []) K_92 W_87 (Or.inr (Nat.le_of_eq g_71.symm))
    have K_94 : Keep h0 h_87 [] := Keep.wr (ws := []) K_85 W_87 (Or.inr (Nat.le_trans K_72.1 (Nat.le_of_eq g_71.symm)))
    obtain ⟨_, _, ⟨T_95, L_95, k_95, n_95⟩, -, X_95, ⟨Lc_95, hQ_95, l_95, y_95, z_95⟩, st_95⟩ := X_87.specialBack hx (y := (⟨"java/lang/String", "<init>", "([C)V"⟩ : MethodName)) rfl hown (mvT hZ (own_w hw 11 rfl)) (mvT hZ (own_w hw 12 rfl)) (mvT hZ (own_w hw 13 rfl)) (by decide) (StrChars.Road.backV (W := 1) hZ (own_hwords hw) (kI := 4) (own_w hw 9 rfl) (cs := ([c0, c1, c2, c3] : List Int32)) (bs := ([c0, c1, c2, c3] : List Int32).map (fun c => c.toInt8.toInt32)) (n := 4) (Nat.le_trans Z0 (Nat.le_of_eq g_68.symm)) (Nat.le_trans Z0 K_94.1) (A_68.keep K_93) (F_70.keep K_93 nin0) (F_69.keep K_93 nin0) V_88 (Scs.ext (O0.keep K_94 all0).2) hcs rfl rfl (by decide) (by decide) hp rfl (by decide) (by decide)) (g := (mkF m 135 #[.val (.int (4 : Int32)), .val (.ref a2)] [(.ref b_71), (.ref b_68), (.ref b_68)])) rfl (by rw [hml]; rfl) (Steps.refl _) (a := b_68) (argsL := [(.ref b_71)]) (rest := [(.ref b_68)]) (lenOf pd_4 rfl) rfl (by show 2 * 0 + _ ≤ _; exact Nat.le_of_eq rfl) (hb hby d2_135) (fun _ _ => ⟨rfl, e_87, (by decide : 2 + 1 ≤ _), (by decide : 8 + 4 ≤ _)⟩)
    dsimp only [Pt.U, Pt.locs, Pt.cells, Pt.slots] at X_95 l_95 y_95 z_95 st_95 hQ_95
    subst l_95 y_95 z_95
    obtain ⟨rfl, Nq_95, K_95q, EX_95, FC_95, t_95, kb_95, -, ft_95, -, FV_95, FA_95⟩ := hQ_95
    have N_95 := Fr.app N_87 Nq_95
    refine own_via (fun _ k => st_95.trans k) ?_
    show own_Go p e below _ (T_95.setTop (mkF m 138 #[.val (.int (4 : Int32)), .val (.ref a2)] [(.ref b_68)]))
    have K_96 : Keep h0 T_95.heap [] := Keep.trans (ws := []) K_94 K_95q (allS (Or.inr (Nat.le_of_eq g_68.symm)) all0)
    exact own_retvW X_95 hS0 (Nat.le_trans (Nat.zero_le _) K_96.1) Bd.notSynchronized hx Bd.returns rfl (Or.inr (Or.inr (Or.inr (Or.inr ⟨rfl, rfl, rfl⟩)))) (hb hby d2_138) (by decide) (by decide) ⟨b_68, rfl, N_95, K_96, (Nat.le_of_eq g_68.symm), EX_95, ⟨EX_95, FC_95, ⟨t_95, kb_95, FV_95, FA_95⟩, hp, (by simp)⟩, (own_CHstay (J0.keep K_96 all0) hZ (own_EW hw) X_95.warmed)⟩
  · show own_Go p e below _ (s₁.setTop (mkF m 0 #[.val (.int (5 : Int32)), .val (.ref a2)] []))
    refine own_via (fun _ => XS.iloadN X0.here hx rfl (hb hby d2_0) rfl) ?_
    show own_Go p e below _ (s₁.setTop (mkF m 1 #[.val (.int (5 : Int32)), .val (.ref a2)] [(.int (5 : Int32))]))
    refine own_via (fun _ => XS.ifYes X0.here hx rfl (pc0 := 1) (pc' := 15) rfl (hb hby d2_1) rfl ((if0 _ _).trans (tlt ((by decide) : (0 : Int32) < (5 : Int32))).2.2.1) (by decide) (by decide)) ?_
    show own_Go p e below _ (s₁.setTop (mkF m 15 #[.val (.int (5 : Int32)), .val (.ref a2)] []))
    refine own_via (fun _ => XS.iloadN X0.here hx rfl (hb hby d2_15) rfl) ?_
    show own_Go p e below _ (s₁.setTop (mkF m 16 #[.val (.int (5 : Int32)), .val (.ref a2)] [(.int (5 : Int32))]))
    refine own_via (fun _ => XS.iconst X0.here hx rfl (hb hby d2_16)) ?_
    show own_Go p e below _ (s₁.setTop (mkF m 17 #[.val (.int (5 : Int32)), .val (.ref a2)] [(.int (1 : Int32)), (.int (5 : Int32))]))
    refine own_via (fun _ => XS.icmpYes X0.here hx rfl (pc0 := 17) (pc' := 37) rfl (hb hby d2_17) rfl (feq ((by decide) : ¬ ((5 : Int32) = (1 : Int32)))).2 (by decide) (by decide)) ?_
    show own_Go p e below _ (s₁.setTop (mkF m 37 #[.val (.int (5 : Int32)), .val (.ref a2)] []))
    refine own_via (fun _ => XS.iloadN X0.here hx rfl (hb hby d2_37) rfl) ?_
    show own_Go p e below _ (s₁.setTop (mkF m 38 #[.val (.int (5 : Int32)), .val (.ref a2)] [(.int (5 : Int32))]))
    refine own_via (fun _ => XS.iconst X0.here hx rfl (hb hby d2_38)) ?_
    show own_Go p e below _ (s₁.setTop (mkF m 39 #[.val (.int (5 : Int32)), .val (.ref a2)] [(.int (2 : Int32)), (.int (5 : Int32))]))
    refine own_via (fun _ => XS.icmpYes X0.here hx rfl (pc0 := 39) (pc' := 65) rfl (hb hby d2_39) rfl (feq ((by decide) : ¬ ((5 : Int32) = (2 : Int32)))).2 (by decide) (by decide)) ?_
    show own_Go p e below _ (s₁.setTop (mkF m 65 #[.val (.int (5 : Int32)), .val (.ref a2)] []))
    refine own_via (fun _ => XS.iloadN X0.here hx rfl (hb hby d2_65) rfl) ?_
    show own_Go p e below _ (s₁.setTop (mkF m 66 #[.val (.int (5 : Int32)), .val (.ref a2)] [(.int (5 : Int32))]))
    refine own_via (fun _ => XS.iconst X0.here hx rfl (hb hby d2_66)) ?_
    show own_Go p e below _ (s₁.setTop (mkF m 67 #[.val (.int (5 : Int32)), .val (.ref a2)] [(.int (3 : Int32)), (.int (5 : Int32))]))
    refine own_via (fun _ => XS.icmpYes X0.here hx rfl (pc0 := 67) (pc' := 99) rfl (hb hby d2_67) rfl (feq ((by decide) : ¬ ((5 : Int32) = (3 : Int32)))).2 (by decide) (by decide)) ?_
    show own_Go p e below _ (s₁.setTop (mkF m 99 #[.val (.int (5 : Int32)), .val (.ref a2)] []))
    refine own_via (fun _ => XS.iloadN X0.here hx rfl (hb hby d2_99) rfl) ?_
    show own_Go p e below _ (s₁.setTop (mkF m 100 #[.val (.int (5 : Int32)), .val (.ref a2)] [(.int (5 : Int32))]))
    refine own_via (fun _ => XS.iconst X0.here hx rfl (hb hby d2_100)) ?_
    show own_Go p e below _ (s₁.setTop (mkF m 101 #[.val (.int (5 : Int32)), .val (.ref a2)] [(.int (4 : Int32)), (.int (5 : Int32))]))
    refine own_via (fun _ => XS.icmpYes X0.here hx rfl (pc0 := 101) (pc' := 139) rfl (hb hby d2_101) rfl (feq ((by decide) : ¬ ((5 : Int32) = (4 : Int32)))).2 (by decide) (by decide)) ?_
    show own_Go p e below _ (s₁.setTop (mkF m 139 #[.val (.int (5 : Int32)), .val (.ref a2)] []))
    refine own_via (fun _ => XS.iloadN X0.here hx rfl (hb hby d2_139) rfl) ?_
    show own_Go p e below _ (s₁.setTop (mkF m 140 #[.val (.int (5 : Int32)), .val (.ref a2)] [(.int (5 : Int32))]))
    refine own_via (fun _ => XS.iconst X0.here hx rfl (hb hby d2_140)) ?_
    show own_Go p e below _ (s₁.setTop (mkF m 141 #[.val (.int (5 : Int32)), .val (.ref a2)] [(.int (5 : Int32)), (.int (5 : Int32))]))
    refine own_via (fun _ => XS.icmpNo X0.here hx rfl (hb hby d2_141) rfl (teq ((by decide) : (5 : Int32) = (5 : Int32))).2) ?_
    show own_Go p e below _ (s₁.setTop (mkF m 144 #[.val (.int (5 : Int32)), .val (.ref a2)] []))
    obtain ⟨T_97, h_97, X_97, e_97, E_97, A_97, D_97, -, st_97⟩ := newO X0 hx hZ hown (own_w hw 8 rfl) (own_w hw 9 rfl) (own_w hw 10 rfl) e0 (g := (mkF m 144 #[.val (.int (5 : Int32)), .val (.ref a2)] [])) rfl (hb hby d2_144) (by decide) (by decide)
    obtain ⟨b_97, g_97⟩ : ∃ z, z = h0.size := ⟨_, rfl⟩
    rw [← g_97] at A_97 D_97 st_97
    have F_98 : Fld Z h_97 b_97 "java/lang/String" "coder" "B" (.int (0 : Int32)) := D_97 (Or.inr (own_w hw 34 rfl)) (ty := .byte) (by decide)
    have F_99 : Fld Z h_97 b_97 "java/lang/String" "value" "[B" .null := D_97 (Or.inr (own_w hw 36 rfl)) (ty := (.array .byte)) (by decide)
    refine own_via st_97 ?_
    show own_Go p e below _ (T_97.setTop (mkF m 147 #[.val (.int (5 : Int32)), .val (.ref a2)] [(.ref b_97)]))
    refine own_via (fun _ => XS.dup X_97.here hx rfl (hb hby d2_147) rfl rfl) ?_
    show own_Go p e below _ (T_97.setTop (mkF m 148 #[.val (.int (5 : Int32)), .val (.ref a2)] [(.ref b_97), (.ref b_97)]))
    refine own_via (fun _ => XS.iconst X_97.here hx rfl (hb hby d2_148)) ?_
    show own_Go p e below _ (T_97.setTop (mkF m 149 #[.val (.int (5 : Int32)), .val (.ref a2)] [(.int (5 : Int32)), (.ref b_97), (.ref b_97)]))
    obtain ⟨T_100, h_100, k_100, X_100, e_100, E_100, A_100, st_100⟩ := newP X_97 hx hZ (own_w hw 0 rfl) e_97 (g := (mkF m 149 #[.val (.int (5 : Int32)), .val (.ref a2)] [(.int (5 : Int32)), (.ref b_97), (.ref b_97)])) rfl (hb hby d2_149) rfl (by decide) (cap := 5) (by decide) (by decide) (by decide) (by decide)
    obtain ⟨b_100, g_100⟩ : ∃ z, z = h_97.size := ⟨_, rfl⟩
    rw [← g_100] at A_100 st_100
    have V_100 : Arv Z h_100 b_100 k_100 .char (5 : Int32) [(.int (0 : Int32)), (.int (0 : Int32)), (.int (0 : Int32)), (.int (0 : Int32)), (.int (0 : Int32))] (.int (0 : Int32)) := (Arv.new A_100 (by decide)).pad (pad_rep [] (.int (0 : Int32)) 5)
    refine own_via st_100 ?_
    show own_Go p e below _ (T_100.setTop (mkF m 151 #[.val (.int (5 : Int32)), .val (.ref a2)] [(.ref b_100), (.ref b_97), (.ref b_97)]))
    refine own_via (fun _ => XS.dup X_100.here hx rfl (hb hby d2_151) rfl rfl) ?_
    show own_Go p e below _ (T_100.setTop (mkF m 152 #[.val (.int (5 : Int32)), .val (.ref a2)] [(.ref b_100), (.ref b_100), (.ref b_97), (.ref b_97)]))
    refine own_via (fun _ => XS.iconst X_100.here hx rfl (hb hby d2_152)) ?_
    show own_Go p e below _ (T_100.setTop (mkF m 153 #[.val (.int (5 : Int32)), .val (.ref a2)] [(.int (0 : Int32)), (.ref b_100), (.ref b_100), (.ref b_97), (.ref b_97)]))
    refine own_via (fun _ => XS.aloadN X_100.here hx rfl (hb hby d2_153) rfl rfl) ?_
    show own_Go p e below _ (T_100.setTop (mkF m 154 #[.val (.int (5 : Int32)), .val (.ref a2)] [(.ref a2), (.int (0 : Int32)), (.ref b_100), (.ref b_100), (.ref b_97), (.ref b_97)]))
    refine own_via (fun _ => XS.iconst X_100.here hx rfl (hb hby d2_154)) ?_
    show own_Go p e below _ (T_100.setTop (mkF m 155 #[.val (.int (5 : Int32)), .val (.ref a2)] [(.int (0 : Int32)), (.ref a2), (.int (0 : Int32)), (.ref b_100), (.ref b_100), (.ref b_97), (.ref b_97)]))
    have K_101 : Keep h0 h_97 [] := (Keep.refl h0 []).ext E_97
    have K_102 : Keep h0 h_100 [] := K_101.ext E_100
    obtain ⟨cl_103, Ar_103, q_103, S_103, M_103, H_103, G_103⟩ := (id (A2.keep K_102 nin0))
    have in_103 : ¬ ((0 : Int32) < 0 ∨ cl_103.slots.size ≤ ((0 : Int32)).toNatClampNeg) := inb_of S_103 ⟨by decide, by decide⟩
    refine own_via (X_100.caload hx (j := (0 : Int32)) (v := (.int c0)) (by rw [e_100]; exact Ar_103.1) (State.isArrayOf_alike hZ.alike Ar_103.2.1) Ar_103.2.2 in_103 (Has.at H_103 in_103 rfl) (g := (mkF m 155 #[.val (.int (5 : Int32)), .val (.ref a2)] [(.int (0 : Int32)), (.ref a2), (.int (0 : Int32)), (.ref b_100), (.ref b_100), (.ref b_97), (.ref b_97)])) rfl rfl (hb hby d2_155)) ?_
    show own_Go p e below _ (T_100.setTop (mkF m 156 #[.val (.int (5 : Int32)), .val (.ref a2)] [(.int c0), (.int (0 : Int32)), (.ref b_100), (.ref b_100), (.ref b_97), (.ref b_97)]))
    obtain ⟨cl_104, Ar_104, q_104, S_104, M_104, H_104, G_104⟩ := (id V_100)
    obtain ⟨T_104, h_104, X_104, e_104, W_104, st_104⟩ := stC X_100 hx hZ e_100 Ar_104 (j := (0 : Int32)) (inb_of S_104 ⟨by decide, by decide⟩) (g := (mkF m 156 #[.val (.int (5 : Int32)), .val (.ref a2)] [(.int c0), (.int (0 : Int32)), (.ref b_100), (.ref b_100), (.ref b_97), (.ref b_97)])) rfl rfl (hb hby d2_156)
    have V_104 : Arv Z h_104 b_100 k_100 .char (5 : Int32) [(.int (nar .char c0)), (.int (0 : Int32)), (.int (0 : Int32)), (.int (0 : Int32)), (.int (0 : Int32))] (.int (0 : Int32)) := Arv.set Ar_104 q_104 S_104 M_104 H_104 G_104 (fits_nar_char _) W_104 0 rfl (Nat.le_of_ble_eq_true rfl)
    have N_104 := Fr.snoc X_104 N0 (Nat.le_trans Z0 (Nat.le_trans K_101.1 (Nat.le_of_eq g_100.symm)))
    refine own_via st_104 ?_
    show own_Go p e below _ (T_104.setTop (mkF m 157 #[.val (.int (5 : Int32)), .val (.ref a2)] [(.ref b_100), (.ref b_97), (.ref b_97)]))
    have V_105 : Arv Z h_104 b_100 k_100 .char (5 : Int32) [(.int c0), (.int (0 : Int32)), (.int (0 : Int32)), (.int (0 : Int32)), (.int (0 : Int32))] (.int (0 : Int32)) := by have q := V_104; rwa [own_nar hb0] at q
    refine own_via (fun _ => XS.dup X_104.here hx rfl (hb hby d2_157) rfl rfl) ?_
    show own_Go p e below _ (T_104.setTop (mkF m 158 #[.val (.int (5 : Int32)), .val (.ref a2)] [(.ref b_100), (.ref b_100), (.ref b_97), (.ref b_97)]))
    refine own_via (fun _ => XS.iconst X_104.here hx rfl (hb hby d2_158)) ?_
    show own_Go p e below _ (T_104.setTop (mkF m 159 #[.val (.int (5 : Int32)), .val (.ref a2)] [(.int (1 : Int32)), (.ref b_100), (.ref b_100), (.ref b_97), (.ref b_97)]))
    refine own_via (fun _ => XS.aloadN X_104.here hx rfl (hb hby d2_159) rfl rfl) ?_
    show own_Go p e below _ (T_104.setTop (mkF m 160 #[.val (.int (5 : Int32)), .val (.ref a2)] [(.ref a2), (.int (1 : Int32)), (.ref b_100), (.ref b_100), (.ref b_97), (.ref b_97)]))
    refine own_via (fun _ => XS.iconst X_104.here hx rfl (hb hby d2_160)) ?_
    show own_Go p e below _ (T_104.setTop (mkF m 161 #[.val (.int (5 : Int32)), .val (.ref a2)] [(.int (1 : Int32)), (.ref a2), (.int (1 : Int32)), (.ref b_100), (.ref b_100), (.ref b_97), (.ref b_97)]))
    have K_106 : Keep h0 h_104 [] := Keep.wr (ws := []) K_102 W_104 (Or.inr (Nat.le_trans K_101.1 (Nat.le_of_eq g_100.symm)))
    obtain ⟨cl_107, Ar_107, q_107, S_107, M_107, H_107, G_107⟩ := (id (A2.keep K_106 nin0))
    have in_107 : ¬ ((1 : Int32) < 0 ∨ cl_107.slots.size ≤ ((1 : Int32)).toNatClampNeg) := inb_of S_107 ⟨by decide, by decide⟩
    refine own_via (X_104.caload hx (j := (1 : Int32)) (v := (.int c1)) (by rw [e_104]; exact Ar_107.1) (State.isArrayOf_alike hZ.alike Ar_107.2.1) Ar_107.2.2 in_107 (Has.at H_107 in_107 rfl) (g := (mkF m 161 #[.val (.int (5 : Int32)), .val (.ref a2)] [(.int (1 : Int32)), (.ref a2), (.int (1 : Int32)), (.ref b_100), (.ref b_100), (.ref b_97), (.ref b_97)])) rfl rfl (hb hby d2_161)) ?_
    show own_Go p e below _ (T_104.setTop (mkF m 162 #[.val (.int (5 : Int32)), .val (.ref a2)] [(.int c1), (.int (1 : Int32)), (.ref b_100), (.ref b_100), (.ref b_97), (.ref b_97)]))
    obtain ⟨cl_108, Ar_108, q_108, S_108, M_108, H_108, G_108⟩ := (id V_105)
    obtain ⟨T_108, h_108, X_108, e_108, W_108, st_108⟩ := stC X_104 hx hZ e_104 Ar_108 (j := (1 : Int32)) (inb_of S_108 ⟨by decide, by decide⟩) (g := (mkF m 162 #[.val (.int (5 : Int32)), .val (.ref a2)] [(.int c1), (.int (1 : Int32)), (.ref b_100), (.ref b_100), (.ref b_97), (.ref b_97)])) rfl rfl (hb hby d2_162)
    have V_108 : Arv Z h_108 b_100 k_100 .char (5 : Int32) [(.int c0), (.int (nar .char c1)), (.int (0 : Int32)), (.int (0 : Int32)), (.int (0 : Int32))] (.int (0 : Int32)) := Arv.set Ar_108 q_108 S_108 M_108 H_108 G_108 (fits_nar_char _) W_108 1 rfl (Nat.le_of_ble_eq_true rfl)
    have N_108 := Fr.snoc X_108 N_104 (Nat.le_trans Z0 (Nat.le_trans K_101.1 (Nat.le_of_eq g_100.symm)))
    refine own_via st_108 ?_
    show own_Go p e below _ (T_108.setTop (mkF m 163 #[.val (.int (5 : Int32)), .val (.ref a2)] [(.ref b_100), (.ref b_97), (.ref b_97)]))
    have V_109 : Arv Z h_108 b_100 k_100 .char (5 : Int32) [(.int c0), (.int c1), (.int (0 : Int32)), (.int (0 : Int32)), (.int (0 : Int32))] (.int (0 : Int32)) := by have q := V_108; rwa [own_nar hb1] at q
    refine own_via (fun _ => XS.dup X_108.here hx rfl (hb hby d2_163) rfl rfl) ?_
    show own_Go p e below _ (T_108.setTop (mkF m 164 #[.val (.int (5 : Int32)), .val (.ref a2)] [(.ref b_100), (.ref b_100), (.ref b_97), (.ref b_97)]))
    refine own_via (fun _ => XS.iconst X_108.here hx rfl (hb hby d2_164)) ?_
    show own_Go p e below _ (T_108.setTop (mkF m 165 #[.val (.int (5 : Int32)), .val (.ref a2)] [(.int (2 : Int32)), (.ref b_100), (.ref b_100), (.ref b_97), (.ref b_97)]))
    refine own_via (fun _ => XS.aloadN X_108.here hx rfl (hb hby d2_165) rfl rfl) ?_
    show own_Go p e below _ (T_108.setTop (mkF m 166 #[.val (.int (5 : Int32)), .val (.ref a2)] [(.ref a2), (.int (2 : Int32)), (.ref b_100), (.ref b_100), (.ref b_97), (.ref b_97)]))
    refine own_via (fun _ => XS.iconst X_108.here hx rfl (hb hby d2_166)) ?_
    show own_Go p e below _ (T_108.setTop (mkF m 167 #[.val (.int (5 : Int32)), .val (.ref a2)] [(.int (2 : Int32)), (.ref a2), (.int (2 : Int32)), (.ref b_100), (.ref b_100), (.ref b_97), (.ref b_97)]))
    have K_110 : Keep h0 h_108 [] := Keep.wr (ws := []) K_106 W_108 (Or.inr (Nat.le_trans K_101.1 (Nat.le_of_eq g_100.symm)))
    obtain ⟨cl_111, Ar_111, q_111, S_111, M_111, H_111, G_111⟩ := (id (A2.keep K_110 nin0))
    have in_111 : ¬ ((2 : Int32) < 0 ∨ cl_111.slots.size ≤ ((2 : Int32)).toNatClampNeg) := inb_of S_111 ⟨by decide, by decide⟩
    refine own_via (X_108.caload hx (j := (2 : Int32)) (v := (.int c2)) (by rw [e_108]; exact Ar_111.1) (State.isArrayOf_alike hZ.alike Ar_111.2.1) Ar_111.2.2 in_111 (Has.at H_111 in_111 rfl) (g := (mkF m 167 #[.val (.int (5 : Int32)), .val (.ref a2)] [(.int (2 : Int32)), (.ref a2), (.int (2 : Int32)), (.ref b_100), (.ref b_100), (.ref b_97), (.ref b_97)])) rfl rfl (hb hby d2_167)) ?_
    show own_Go p e below _ (T_108.setTop (mkF m 168 #[.val (.int (5 : Int32)), .val (.ref a2)] [(.int c2), (.int (2 : Int32)), (.ref b_100), (.ref b_100), (.ref b_97), (.ref b_97)]))
    obtain ⟨cl_112, Ar_112, q_112, S_112, M_112, H_112, G_112⟩ := (id V_109)
    obtain ⟨T_112, h_112, X_112, e_112, W_112, st_112⟩ := stC X_108 hx hZ e_108 Ar_112 (j := (2 : Int32)) (inb_of S_112 ⟨by decide, by decide⟩) (g := (mkF m 168 #[.val (.int (5 : Int32)), .val (.ref a2)] [(.int c2), (.int (2 : Int32)), (.ref b_100), (.ref b_100), (.ref b_97), (.ref b_97)])) rfl rfl (hb hby d2_168)
    have V_112 : Arv Z h_112 b_100 k_100 .char (5 : Int32) [(.int c0), (.int c1), (.int (nar .char c2)), (.int (0 : Int32)), (.int (0 : Int32))] (.int (0 : Int32)) := Arv.set Ar_112 q_112 S_112 M_112 H_112 G_112 (fits_nar_char _) W_112 2 rfl (Nat.le_of_ble_eq_true rfl)
    have N_112 := Fr.snoc X_112 N_108 (Nat.le_trans Z0 (Nat.le_trans K_101.1 (Nat.le_of_eq g_100.symm)))
    refine own_via st_112 ?_
    show own_Go p e below _ (T_112.setTop (mkF m 169 #[.val (.int (5 : Int32)), .val (.ref a2)] [(.ref b_100), (.ref b_97), (.ref b_97)]))
    have V_113 : Arv Z h_112 b_100 k_100 .char (5 : Int32) [(.int c0), (.int c1), (.int c2), (.int (0 : Int32)), (.int (0 : Int32))] (.int (0 : Int32)) := by have q := V_112; rwa [own_nar hb2] at q
    refine own_via (fun _ => XS.dup X_112.here hx rfl (hb hby d2_169) rfl rfl) ?_
    show own_Go p e below _ (T_112.setTop (mkF m 170 #[.val (.int (5 : Int32)), .val (.ref a2)] [(.ref b_100), (.ref b_100), (.ref b_97), (.ref b_97)]))
    refine own_via (fun _ => XS.iconst X_112.here hx rfl (hb hby d2_170)) ?_
    show own_Go p e below _ (T_112.setTop (mkF m 171 #[.val (.int (5 : Int32)), .val (.ref a2)] [(.int (3 : Int32)), (.ref b_100), (.ref b_100), (.ref b_97), (.ref b_97)]))
    refine own_via (fun _ => XS.aloadN X_112.here hx rfl (hb hby d2_171) rfl rfl) ?_
    show own_Go p e below _ (T_112.setTop (mkF m 172 #[.val (.int (5 : Int32)), .val (.ref a2)] [(.ref a2), (.int (3 : Int32)), (.ref b_100), (.ref b_100), (.ref b_97), (.ref b_97)]))
    refine own_via (fun _ => XS.iconst X_112.here hx rfl (hb hby d2_172)) ?_
    show own_Go p e below _ (T_112.setTop (mkF m 173 #[.val (.int (5 : Int32)), .val (.ref a2)] [(.int (3 : Int32)), (.ref a2), (.int (3 : Int32)), (.ref b_100), (.ref b_100), (.ref b_97), (.ref b_97)]))
    have K_114 : Keep h0 h_112 [] := Keep.wr (ws := []) K_110 W_112 (Or.inr (Nat.le_trans K_101.1 (Nat.le_of_eq g_100.symm)))
    obtain ⟨cl_115, Ar_115, q_115, S_115, M_115, H_115, G_115⟩ := (id (A2.keep K_114 nin0))
    have in_115 : ¬ ((3 : Int32) < 0 ∨ cl_115.slots.size ≤ ((3 : Int32)).toNatClampNeg) := inb_of S_115 ⟨by decide, by decide⟩
    refine own_via (X_112.caload hx (j := (3 : Int32)) (v := (.int c3)) (by rw [e_112]; exact Ar_115.1) (State.isArrayOf_alike hZ.alike Ar_115.2.1) Ar_115.2.2 in_115 (Has.at H_115 in_115 rfl) (g := (mkF m 173 #[.val (.int (5 : Int32)), .val (.ref a2)] [(.int (3 : Int32)), (.ref a2), (.int (3 : Int32)), (.ref b_100), (.ref b_100), (.ref b_97), (.ref b_97)])) rfl rfl (hb hby d2_173)) ?_
    show own_Go p e below _ (T_112.setTop (mkF m 174 #[.val (.int (5 : Int32)), .val (.ref a2)] [(.int c3), (.int (3 : Int32)), (.ref b_100), (.ref b_100), (.ref b_97), (.ref b_97)]))
    obtain ⟨cl_116, Ar_116, q_116, S_116, M_116, H_116, G_116⟩ := (id V_113)
    obtain ⟨T_116, h_116, X_116, e_116, W_116, st_116⟩ := stC X_112 hx hZ e_112 Ar_116 (j := (3 : Int32)) (inb_of S_116 ⟨by decide, by decide⟩) (g := (mkF m 174 #[.val (.int (5 : Int32)), .val (.ref a2)] [(.int c3), (.int (3 : Int32)), (.ref b_100), (.ref b_100), (.ref b_97), (.ref b_97)])) rfl rfl (hb hby d2_174)
    have V_116 : Arv Z h_116 b_100 k_100 .char (5 : Int32) [(.int c0), (.int c1), (.int c2), (.int (nar .char c3)), (.int (0 : Int32))] (.int (0 : Int32)) := Arv.set Ar_116 q_116 S_116 M_116 H_116 G_116 (fits_nar_char _) W_116 3 rfl (Nat.le_of_ble_eq_true rfl)
    have N_116 := Fr.snoc X_116 N_112 (Nat.le_trans Z0 (Nat.le_trans K_101.1 (Nat.le_of_eq g_100.symm)))
    refine own_via st_116 ?_
    show own_Go p e below _ (T_116.setTop (mkF m 175 #[.val (.int (5 : Int32)), .val (.ref a2)] [(.ref b_100), (.ref b_97), (.ref b_97)]))
    have V_117 : Arv Z h_116 b_100 k_100 .char (5 : Int32) [(.int c0), (.int c1), (.int c2), (.int c3), (.int (0 : Int32))] (.int (0 : Int32)) := by have q := V_116; rwa [own_nar hb3] at q
    refine own_via (fun _ => XS.dup X_116.here hx rfl (hb hby d2_175) rfl rfl) ?_
    show own_Go p e below _ (T_116.setTop (mkF m 176 #[.val (.int (5 : Int32)), .val (.ref a2)] [(.ref b_100), (.ref b_100), (.ref b_97), (.ref b_97)]))
    refine own_via (fun _ => XS.iconst X_116.here hx rfl (hb hby d2_176)) ?_
    show own_Go p e below _ (T_116.setTop (mkF m 177 #[.val (.int (5 : Int32)), .val (.ref a2)] [(.int (4 : Int32)), (.ref b_100), (.ref b_100), (.ref b_97), (.ref b_97)]))
    refine own_via (fun _ => XS.aloadN X_116.here hx rfl (hb hby d2_177) rfl rfl) ?_
    show own_Go p e below _ (T_116.setTop (mkF m 178 #[.val (.int (5 : Int32)), .val (.ref a2)] [(.ref a2), (.int (4 : Int32)), (.ref b_100), (.ref b_100), (.ref b_97), (.ref b_97)]))
    refine own_via (fun _ => XS.iconst X_116.here hx rfl (hb hby d2_178)) ?_
    show own_Go p e below _ (T_116.setTop (mkF m 179 #[.val (.int (5 : Int32)), .val (.ref a2)] [(.int (4 : Int32)), (.ref a2), (.int (4 : Int32)), (.ref b_100), (.ref b_100), (.ref b_97), (.ref b_97)]))
    have K_118 : Keep h0 h_116 [] := Keep.wr (ws := []) K_114 W_116 (Or.inr (Nat.le_trans K_101.1 (Nat.le_of_eq g_100.symm)))
    obtain ⟨cl_119, Ar_119, q_119, S_119, M_119, H_119, G_119⟩ := (id (A2.keep K_118 nin0))
    have in_119 : ¬ ((4 : Int32) < 0 ∨ cl_119.slots.size ≤ ((4 : Int32)).toNatClampNeg) := inb_of S_119 ⟨by decide, by decide⟩
    refine own_via (X_116.caload hx (j := (4 : Int32)) (v := (.int c4)) (by rw [e_116]; exact Ar_119.1) (State.isArrayOf_alike hZ.alike Ar_119.2.1) Ar_119.2.2 in_119 (Has.at H_119 in_119 rfl) (g := (mkF m 179 #[.val (.int (5 : Int32)), .val (.ref a2)] [(.int (4 : Int32)), (.ref a2), (.int (4 : Int32)), (.ref b_100), (.ref b_100), (.ref b_97), (.ref b_97)])) rfl rfl (hb hby d2_179)) ?_
    show own_Go p e below _ (T_116.setTop (mkF m 180 #[.val (.int (5 : Int32)), .val (.ref a2)] [(.int c4), (.int (4 : Int32)), (.ref b_100), (.ref b_100), (.ref b_97), (.ref b_97)]))
    obtain ⟨cl_120, Ar_120, q_120, S_120, M_120, H_120, G_120⟩ := (id V_117)
    obtain ⟨T_120, h_120, X_120, e_120, W_120, st_120⟩ := stC X_116 hx hZ e_116 Ar_120 (j := (4 : Int32)) (inb_of S_120 ⟨by decide, by decide⟩) (g := (mkF m 180 #[.val (.int (5 : Int32)), .val (.ref a2)] [(.int c4), (.int (4 : Int32)), (.ref b_100), (.ref b_100), (.ref b_97), (.ref b_97)])) rfl rfl (hb hby d2_180)
    have V_120 : Arv Z h_120 b_100 k_100 .char (5 : Int32) [(.int c0), (.int c1), (.int c2), (.int c3), (.int (nar .char c4))] (.int (0 : Int32)) := Arv.set Ar_120 q_120 S_120 M_120 H_120 G_120 (fits_nar_char _) W_120 4 rfl (Nat.le_of_ble_eq_true rfl)
    have N_120 := Fr.snoc X_120 N_116 (Nat.le_trans Z0 (Nat.le_trans K_101.1 (Nat.le_of_eq g_100.symm)))
    refine own_via st_120 ?_
    show own_Go p e below _ (T_120.setTop (mkF m 181 #[.val (.int (5 : Int32)), .val (.ref a2)] [(.ref b_100), (.ref b_97), (.ref b_97)]))
    have V_121 : Arv Z h_120 b_100 k_100 .char (5 : Int32) [(.int c0), (.int c1), (.int c2), (.int c3), (.int c4)] (.int (0 : Int32)) := by have q := V_120; rwa [own_nar hb4] at q
    have hp : ∀ c ∈ ([c0, c1, c2, c3, c4] : List Int32), ¬ c < 0 ∧ ¬ (255 : Int32) < c := by intro c hc; simp only [List.mem_cons, List.not_mem_nil, or_false] at hc; rcases hc with rfl | rfl | rfl | rfl | rfl <;> assumption
    have K_122 : Keep h_97 h_100 [] := (Keep.refl h_97 []).ext E_100
    have K_123 : Keep h_97 h_104 [] := Keep.wr (ws := []) K_122 W_104 (Or.inr (Nat.le_of_eq g_100.symm))
    have K_124 : Keep h_97 h_108 [] := Keep.wr (ws := []) K_123 W_108 (Or.inr (Nat.le_of_eq g_100.symm))
    have K_125 : Keep h_97 h_112 [] := Keep.wr (ws := []) K_124 W_112 (Or.inr (Nat.le_of_eq g_100.symm))
    have K_126 : Keep h_97 h_116 [] := Keep.wr (ws := []) K_125 W_116 (Or.inr (Nat.le_of_eq g_100.symm))
    have K_127 : Keep h_97 h_120 [] := Keep.wr (ws := []) K_126 W_120 (Or.inr (Nat.le_of_eq g_100.symm))
    have K_128 : Keep h0 h_120 [] := Keep.wr (ws := []) K_118 W_120 (Or.inr (Nat.le_trans K_101.1 (Nat.le_of_eq g_100.symm)))
    obtain ⟨_, _, ⟨T_129, L_129, k_129, n_129⟩, -, X_129, ⟨Lc_129, hQ_129, l_129, y_129, z_129⟩, st_129⟩ := X_120.specialBack hx (y := (⟨"java/lang/String", "<init>", "([C)V"⟩ : MethodName)) rfl hown (mvT hZ (own_w hw 11 rfl)) (mvT hZ (own_w hw 12 rfl)) (mvT hZ (own_w hw 13 rfl)) (by decide) (StrChars.Road.backV (W := 1) hZ (own_hwords hw) (kI := 4) (own_w hw 9 rfl) (cs := ([c0, c1, c2, c3, c4] : List Int32)) (bs := ([c0, c1, c2, c3, c4] : List Int32).map (fun c => c.toInt8.toInt32)) (n := 5) (Nat.le_trans Z0 (Nat.le_of_eq g_97.symm)) (Nat.le_trans Z0 K_128.1) (A_97.keep K_127) (F_99.keep K_127 nin0) (F_98.keep K_127 nin0) V_121 (Scs.ext (O0.keep K_128 all0).2) hcs rfl rfl (by decide) (by decide) hp rfl (by decide) (by decide)) (g := (mkF m 181 #[.val (.int (5 : Int32)), .val (.ref a2)] [(.ref b_100), (.ref b_97), (.ref b_97)])) rfl (by rw [hml]; rfl) (Steps.refl _) (a := b_97) (argsL := [(.ref b_100)]) (rest := [(.ref b_97)]) (lenOf pd_4 rfl) rfl (by show 2 * 0 + _ ≤ _; exact Nat.le_of_eq rfl) (hb hby d2_181) (fun _ _ => ⟨rfl, e_120, (by decide : 2 + 1 ≤ _), (by decide : 9 + 5 ≤ _)⟩)
    dsimp only [Pt.U, Pt.locs, Pt.cells, Pt.slots] at X_129 l_129 y_129 z_129 st_129 hQ_129
    subst l_129 y_129 z_129
    obtain ⟨rfl, Nq_129, K_129q, EX_129, FC_129, t_129, kb_129, -, ft_129, -, FV_129, FA_129⟩ := hQ_129
    have N_129 := Fr.app N_120 Nq_129
    refine own_via (fun _ k => st_129.trans k) ?_
    show own_Go p e below _ (T_129.setTop (mkF m 184 #[.val (.int (5 : Int32)), .val (.ref a2)] [(.ref b_97)]))
    have K_130 : Keep h0 T_129.heap [] := Keep.trans (ws := []) K_128 K_129q (allS (Or.inr (Nat.le_of_eq g_97.symm)) all0)
    exact own_retvW X_129 hS0 (Nat.le_trans (Nat.zero_le _) K_130.1) Bd.notSynchronized hx Bd.returns rfl (Or.inr (Or.inr (Or.inr (Or.inr ⟨rfl, rfl, rfl⟩)))) (hb hby d2_184) (by decide) (by decide) ⟨b_97, rfl, N_129, K_130, (Nat.le_of_eq g_97.symm), EX_129, ⟨EX_129, FC_129, ⟨t_129, kb_129, FV_129, FA_129⟩, hp, (by simp)⟩, (own_CHstay (J0.keep K_130 all0) hZ (own_EW hw) X_129.warmed)⟩
  · show own_Go p e below _ (s₁.setTop (mkF m 0 #[.val (.int (6 : Int32)), .val (.ref a2)] []))
    refine own_via (fun _ => XS.iloadN X0.here hx rfl (hb hby d2_0) rfl) ?_
    show own_Go p e below _ (s₁.setTop (mkF m 1 #[.val (.int (6 : Int32)), .val (.ref a2)] [(.int (6 : Int32))]))
    refine own_via (fun _ => XS.ifYes X0.here hx rfl (pc0 := 1) (pc' := 15) rfl (hb hby d2_1) rfl ((if0 _ _).trans (tlt ((by decide) : (0 : Int32) < (6 : Int32))).2.2.1) (by decide) (by decide)) ?_
    show own_Go p e below _ (s₁.setTop (mkF m 15 #[.val (.int (6 : Int32)), .val (.ref a2)] []))
    refine own_via (fun _ => XS.iloadN X0.here hx rfl (hb hby d2_15) rfl) ?_
    show own_Go p e below _ (s₁.setTop (mkF m 16 #[.val (.int (6 : Int32)), .val (.ref a2)] [(.int (6 : Int32))]))
    refine own_via (fun _ => XS.iconst X0.here hx rfl (hb hby d2_16)) ?_
    show own_Go p e below _ (s₁.setTop (mkF m 17 #[.val (.int (6 : Int32)), .val (.ref a2)] [(.int (1 : Int32)), (.int (6 : Int32))]))
    refine own_via (fun _ => XS.icmpYes X0.here hx rfl (pc0 := 17) (pc' := 37) rfl (hb hby d2_17) rfl (feq ((by decide) : ¬ ((6 : Int32) = (1 : Int32)))).2 (by decide) (by decide)) ?_
    show own_Go p e below _ (s₁.setTop (mkF m 37 #[.val (.int (6 : Int32)), .val (.ref a2)] []))
    refine own_via (fun _ => XS.iloadN X0.here hx rfl (hb hby d2_37) rfl) ?_
    show own_Go p e below _ (s₁.setTop (mkF m 38 #[.val (.int (6 : Int32)), .val (.ref a2)] [(.int (6 : Int32))]))
    refine own_via (fun _ => XS.iconst X0.here hx rfl (hb hby d2_38)) ?_
    show own_Go p e below _ (s₁.setTop (mkF m 39 #[.val (.int (6 : Int32)), .val (.ref a2)] [(.int (2 : Int32)), (.int (6 : Int32))]))
    refine own_via (fun _ => XS.icmpYes X0.here hx rfl (pc0 := 39) (pc' := 65) rfl (hb hby d2_39) rfl (feq ((by decide) : ¬ ((6 : Int32) = (2 : Int32)))).2 (by decide) (by decide)) ?_
    show own_Go p e below _ (s₁.setTop (mkF m 65 #[.val (.int (6 : Int32)), .val (.ref a2)] []))
    refine own_via (fun _ => XS.iloadN X0.here hx rfl (hb hby d2_65) rfl) ?_
    show own_Go p e below _ (s₁.setTop (mkF m 66 #[.val (.int (6 : Int32)), .val (.ref a2)] [(.int (6 : Int32))]))
    refine own_via (fun _ => XS.iconst X0.here hx rfl (hb hby d2_66)) ?_
    show own_Go p e below _ (s₁.setTop (mkF m 67 #[.val (.int (6 : Int32)), .val (.ref a2)] [(.int (3 : Int32)), (.int (6 : Int32))]))
    refine own_via (fun _ => XS.icmpYes X0.here hx rfl (pc0 := 67) (pc' := 99) rfl (hb hby d2_67) rfl (feq ((by decide) : ¬ ((6 : Int32) = (3 : Int32)))).2 (by decide) (by decide)) ?_
    show own_Go p e below _ (s₁.setTop (mkF m 99 #[.val (.int (6 : Int32)), .val (.ref a2)] []))
    refine own_via (fun _ => XS.iloadN X0.here hx rfl (hb hby d2_99) rfl) ?_
    show own_Go p e below _ (s₁.setTop (mkF m 100 #[.val (.int (6 : Int32)), .val (.ref a2)] [(.int (6 : Int32))]))
    refine own_via (fun _ => XS.iconst X0.here hx rfl (hb hby d2_100)) ?_
    show own_Go p e below _ (s₁.setTop (mkF m 101 #[.val (.int (6 : Int32)), .val (.ref a2)] [(.int (4 : Int32)), (.int (6 : Int32))]))
    refine own_via (fun _ => XS.icmpYes X0.here hx rfl (pc0 := 101) (pc' := 139) rfl (hb hby d2_101) rfl (feq ((by decide) : ¬ ((6 : Int32) = (4 : Int32)))).2 (by decide) (by decide)) ?_
    show own_Go p e below _ (s₁.setTop (mkF m 139 #[.val (.int (6 : Int32)), .val (.ref a2)] []))
    refine own_via (fun _ => XS.iloadN X0.here hx rfl (hb hby d2_139) rfl) ?_
    show own_Go p e below _ (s₁.setTop (mkF m 140 #[.val (.int (6 : Int32)), .val (.ref a2)] [(.int (6 : Int32))]))
    refine own_via (fun _ => XS.iconst X0.here hx rfl (hb hby d2_140)) ?_
    show own_Go p e below _ (s₁.setTop (mkF m 141 #[.val (.int (6 : Int32)), .val (.ref a2)] [(.int (5 : Int32)), (.int (6 : Int32))]))
    refine own_via (fun _ => XS.icmpYes X0.here hx rfl (pc0 := 141) (pc' := 185) rfl (hb hby d2_141) rfl (feq ((by decide) : ¬ ((6 : Int32) = (5 : Int32)))).2 (by decide) (by decide)) ?_
    show own_Go p e below _ (s₁.setTop (mkF m 185 #[.val (.int (6 : Int32)), .val (.ref a2)] []))
    obtain ⟨T_131, h_131, X_131, e_131, E_131, A_131, D_131, -, st_131⟩ := newO X0 hx hZ hown (own_w hw 8 rfl) (own_w hw 9 rfl) (own_w hw 10 rfl) e0 (g := (mkF m 185 #[.val (.int (6 : Int32)), .val (.ref a2)] [])) rfl (hb hby d2_185) (by decide) (by decide)
    obtain ⟨b_131, g_131⟩ : ∃ z, z = h0.size := ⟨_, rfl⟩
    rw [← g_131] at A_131 D_131 st_131
    have F_132 : Fld Z h_131 b_131 "java/lang/String" "coder" "B" (.int (0 : Int32)) := D_131 (Or.inr (own_w hw 34 rfl)) (ty := .byte) (by decide)
    have F_133 : Fld Z h_131 b_131 "java/lang/String" "value" "[B" .null := D_131 (Or.inr (own_w hw 36 rfl)) (ty := (.array .byte)) (by decide)
    refine own_via st_131 ?_
    show own_Go p e below _ (T_131.setTop (mkF m 188 #[.val (.int (6 : Int32)), .val (.ref a2)] [(.ref b_131)]))
    refine own_via (fun _ => XS.dup X_131.here hx rfl (hb hby d2_188) rfl rfl) ?_
    show own_Go p e below _ (T_131.setTop (mkF m 189 #[.val (.int (6 : Int32)), .val (.ref a2)] [(.ref b_131), (.ref b_131)]))
    refine own_via (fun _ => XS.bipush X_131.here hx rfl (hb hby d2_189)) ?_
    show own_Go p e below _ (T_131.setTop (mkF m 191 #[.val (.int (6 : Int32)), .val (.ref a2)] [(.int (6 : Int32)), (.ref b_131), (.ref b_131)]))
    obtain ⟨T_134, h_134, k_134, X_134, e_134, E_134, A_134, st_134⟩ := newP X_131 hx hZ (own_w hw 0 rfl) e_131 (g := (mkF m 191 #[.val (.int (6 : Int32)), .val (.ref a2)] [(.int (6 : Int32)), (.ref b_131), (.ref b_131)])) rfl (hb hby d2_191) rfl (by decide) (cap := 6) (by decide) (by decide) (by decide) (by decide)
    obtain ⟨b_134, g_134⟩ : ∃ z, z = h_131.size := ⟨_, rfl⟩
    rw [← g_134] at A_134 st_134
    have V_134 : Arv Z h_134 b_134 k_134 .char (6 : Int32) [(.int (0 : Int32)), (.int (0 : Int32)), (.int (0 : Int32)), (.int (0 : Int32)), (.int (0 : Int32)), (.int (0 : Int32))] (.int (0 : Int32)) := (Arv.new A_134 (by decide)).pad (pad_rep [] (.int (0 : Int32)) 6)
    refine own_via st_134 ?_
    show own_Go p e below _ (T_134.setTop (mkF m 193 #[.val (.int (6 : Int32)), .val (.ref a2)] [(.ref b_134), (.ref b_131), (.ref b_131)]))
    refine own_via (fun _ => XS.dup X_134.here hx rfl (hb hby d2_193) rfl rfl) ?_
    show own_Go p e below _ (T_134.setTop (mkF m 194 #[.val (.int (6 : Int32)), .val (.ref a2)] [(.ref b_134), (.ref b_134), (.ref b_131), (.ref b_131)]))
    refine own_via (fun _ => XS.iconst X_134.here hx rfl (hb hby d2_194)) ?_
    show own_Go p e below _ (T_134.setTop (mkF m 195 #[.val (.int (6 : Int32)), .val (.ref a2)] [(.int (0 : Int32)), (.ref b_134), (.ref b_134), (.ref b_131), (.ref b_131)]))
    refine own_via (fun _ => XS.aloadN X_134.here hx rfl (hb hby d2_195) rfl rfl) ?_
    show own_Go p e below _ (T_134.setTop (mkF m 196 #[.val (.int (6 : Int32)), .val (.ref a2)] [(.ref a2), (.int (0 : Int32)), (.ref b_134), (.ref b_134), (.ref b_131), (.ref b_131)]))
    refine own_via (fun _ => XS.iconst X_134.here hx rfl (hb hby d2_196)) ?_
    show own_Go p e below _ (T_134.setTop (mkF m 197 #[.val (.int (6 : Int32)), .val (.ref a2)] [(.int (0 : Int32)), (.ref a2), (.int (0 : Int32)), (.ref b_134), (.ref b_134), (.ref b_131), (.ref b_131)]))
    have K_135 : Keep h0 h_131 [] := (Keep.refl h0 []).ext E_131
    have K_136 : Keep h0 h_134 [] := K_135.ext E_134
    obtain ⟨cl_137, Ar_137, q_137, S_137, M_137, H_137, G_137⟩ := (id (A2.keep K_136 nin0))
    have in_137 : ¬ ((0 : Int32) < 0 ∨ cl_137.slots.size ≤ ((0 : Int32)).toNatClampNeg) := inb_of S_137 ⟨by decide, by decide⟩
    refine own_via (X_134.caload hx (j := (0 : Int32)) (v := (.int c0)) (by rw [e_134]; exact Ar_137.1) (State.isArrayOf_alike hZ.alike Ar_137.2.1) Ar_137.2.2 in_137 (Has.at H_137 in_137 rfl) (g := (mkF m 197 #[.val (.int (6 : Int32)), .val (.ref a2)] [(.int (0 : Int32)), (.ref a2), (.int (0 : Int32)), (.ref b_134), (.ref b_134), (.ref b_131), (.ref b_131)])) rfl rfl (hb hby d2_197)) ?_
    show own_Go p e below _ (T_134.setTop (mkF m 198 #[.val (.int (6 : Int32)), .val (.ref a2)] [(.int c0), (.int (0 : Int32)), (.ref b_134), (.ref b_134), (.ref b_131), (.ref b_131)]))
    obtain ⟨cl_138, Ar_138, q_138, S_138, M_138, H_138, G_138⟩ := (id V_134)
    obtain ⟨T_138, h_138, X_138, e_138, W_138, st_138⟩ := stC X_134 hx hZ e_134 Ar_138 (j := (0 : Int32)) (inb_of S_138 ⟨by decide, by decide⟩) (g := (mkF m 198 #[.val (.int (6 : Int32)), .val (.ref a2)] [(.int c0), (.int (0 : Int32)), (.ref b_134), (.ref b_134), (.ref b_131), (.ref b_131)])) rfl rfl (hb hby d2_198)
    have V_138 : Arv Z h_138 b_134 k_134 .char (6 : Int32) [(.int (nar .char c0)), (.int (0 : Int32)), (.int (0 : Int32)), (.int (0 : Int32)), (.int (0 : Int32)), (.int (0 : Int32))] (.int (0 : Int32)) := Arv.set Ar_138 q_138 S_138 M_138 H_138 G_138 (fits_nar_char _) W_138 0 rfl (Nat.le_of_ble_eq_true rfl)
    have N_138 := Fr.snoc X_138 N0 (Nat.le_trans Z0 (Nat.le_trans K_135.1 (Nat.le_of_eq g_134.symm)))
    refine own_via st_138 ?_
    show own_Go p e below _ (T_138.setTop (mkF m 199 #[.val (.int (6 : Int32)), .val (.ref a2)] [(.ref b_134), (.ref b_131), (.ref b_131)]))
    have V_139 : Arv Z h_138 b_134 k_134 .char (6 : Int32) [(.int c0), (.int (0 : Int32)), (.int (0 : Int32)), (.int (0 : Int32)), (.int (0 : Int32)), (.int (0 : Int32))] (.int (0 : Int32)) := by have q := V_138; rwa [own_nar hb0] at q
    refine own_via (fun _ => XS.dup X_138.here hx rfl (hb hby d2_199) rfl rfl) ?_
    show own_Go p e below _ (T_138.setTop (mkF m 200 #[.val (.int (6 : Int32)), .val (.ref a2)] [(.ref b_134), (.ref b_134), (.ref b_131), (.ref b_131)]))
    refine own_via (fun _ => XS.iconst X_138.here hx rfl (hb hby d2_200)) ?_
    show own_Go p e below _ (T_138.setTop (mkF m 201 #[.val (.int (6 : Int32)), .val (.ref a2)] [(.int (1 : Int32)), (.ref b_134), (.ref b_134), (.ref b_131), (.ref b_131)]))
    refine own_via (fun _ => XS.aloadN X_138.here hx rfl (hb hby d2_201) rfl rfl) ?_
    show own_Go p e below _ (T_138.setTop (mkF m 202 #[.val (.int (6 : Int32)), .val (.ref a2)] [(.ref a2), (.int (1 : Int32)), (.ref b_134), (.ref b_134), (.ref b_131), (.ref b_131)]))
    refine own_via (fun _ => XS.iconst X_138.here hx rfl (hb hby d2_202)) ?_
    show own_Go p e below _ (T_138.setTop (mkF m 203 #[.val (.int (6 : Int32)), .val (.ref a2)] [(.int (1 : Int32)), (.ref a2), (.int (1 : Int32)), (.ref b_134), (.ref b_134), (.ref b_131), (.ref b_131)]))
    have K_140 : Keep h0 h_138 [] := Keep.wr (ws := []) K_136 W_138 (Or.inr (Nat.le_trans K_135.1 (Nat.le_of_eq g_134.symm)))
    obtain ⟨cl_141, Ar_141, q_141, S_141, M_141, H_141, G_141⟩ := (id (A2.keep K_140 nin0))
    have in_141 : ¬ ((1 : Int32) < 0 ∨ cl_141.slots.size ≤ ((1 : Int32)).toNatClampNeg) := inb_of S_141 ⟨by decide, by decide⟩
    refine own_via (X_138.caload hx (j := (1 : Int32)) (v := (.int c1)) (by rw [e_138]; exact Ar_141.1) (State.isArrayOf_alike hZ.alike Ar_141.2.1) Ar_141.2.2 in_141 (Has.at H_141 in_141 rfl) (g := (mkF m 203 #[.val (.int (6 : Int32)), .val (.ref a2)] [(.int (1 : Int32)), (.ref a2), (.int (1 : Int32)), (.ref b_134), (.ref b_134), (.ref b_131), (.ref b_131)])) rfl rfl (hb hby d2_203)) ?_
    show own_Go p e below _ (T_138.setTop (mkF m 204 #[.val (.int (6 : Int32)), .val (.ref a2)] [(.int c1), (.int (1 : Int32)), (.ref b_134), (.ref b_134), (.ref b_131), (.ref b_131)]))
    obtain ⟨cl_142, Ar_142, q_142, S_142, M_142, H_142, G_142⟩ := (id V_139)
    obtain ⟨T_142, h_142, X_142, e_142, W_142, st_142⟩ := stC X_138 hx hZ e_138 Ar_142 (j := (1 : Int32)) (inb_of S_142 ⟨by decide, by decide⟩) (g := (mkF m 204 #[.val (.int (6 : Int32)), .val (.ref a2)] [(.int c1), (.int (1 : Int32)), (.ref b_134), (.ref b_134), (.ref b_131), (.ref b_131)])) rfl rfl (hb hby d2_204)
    have V_142 : Arv Z h_142 b_134 k_134 .char (6 : Int32) [(.int c0), (.int (nar .char c1)), (.int (0 : Int32)), (.int (0 : Int32)), (.int (0 : Int32)), (.int (0 : Int32))] (.int (0 : Int32)) := Arv.set Ar_142 q_142 S_142 M_142 H_142 G_142 (fits_nar_char _) W_142 1 rfl (Nat.le_of_ble_eq_true rfl)
    have N_142 := Fr.snoc X_142 N_138 (Nat.le_trans Z0 (Nat.le_trans K_135.1 (Nat.le_of_eq g_134.symm)))
    refine own_via st_142 ?_
    show own_Go p e below _ (T_142.setTop (mkF m 205 #[.val (.int (6 : Int32)), .val (.ref a2)] [(.ref b_134), (.ref b_131), (.ref b_131)]))
    have V_143 : Arv Z h_142 b_134 k_134 .char (6 : Int32) [(.int c0), (.int c1), (.int (0 : Int32)), (.int (0 : Int32)), (.int (0 : Int32)), (.int (0 : Int32))] (.int (0 : Int32)) := by have q := V_142; rwa [own_nar hb1] at q
    refine own_via (fun _ => XS.dup X_142.here hx rfl (hb hby d2_205) rfl rfl) ?_
    show own_Go p e below _ (T_142.setTop (mkF m 206 #[.val (.int (6 : Int32)), .val (.ref a2)] [(.ref b_134), (.ref b_134), (.ref b_131), (.ref b_131)]))
    refine own_via (fun _ => XS.iconst X_142.here hx rfl (hb hby d2_206)) ?_
    show own_Go p e below _ (T_142.setTop (mkF m 207 #[.val (.int (6 : Int32)), .val (.ref a2)] [(.int (2 : Int32)), (.ref b_134), (.ref b_134), (.ref b_131), (.ref b_131)]))
    refine own_via (fun _ => XS.aloadN X_142.here hx rfl (hb hby d2_207) rfl rfl) ?_
    show own_Go p e below _ (T_142.setTop (mkF m 208 #[.val (.int (6 : Int32)), .val (.ref a2)] [(.ref a2), (.int (2 : Int32)), (.ref b_134), (.ref b_134), (.ref b_131), (.ref b_131)]))
    refine own_via (fun _ => XS.iconst X_142.here hx rfl (hb hby d2_208)) ?_
    show own_Go p e below _ (T_142.setTop (mkF m 209 #[.val (.int (6 : Int32)), .val (.ref a2)] [(.int (2 : Int32)), (.ref a2), (.int (2 : Int32)), (.ref b_134), (.ref b_134), (.ref b_131), (.ref b_131)]))
    have K_144 : Keep h0 h_142 [] := Keep.wr (ws := []) K_140 W_142 (Or.inr (Nat.le_trans K_135.1 (Nat.le_of_eq g_134.symm)))
    obtain ⟨cl_145, Ar_145, q_145, S_145, M_145, H_145, G_145⟩ := (id (A2.keep K_144 nin0))
    have in_145 : ¬ ((2 : Int32) < 0 ∨ cl_145.slots.size ≤ ((2 : Int32)).toNatClampNeg) := inb_of S_145 ⟨by decide, by decide⟩
    refine own_via (X_142.caload hx (j := (2 : Int32)) (v := (.int c2)) (by rw [e_142]; exact Ar_145.1) (State.isArrayOf_alike hZ.alike Ar_145.2.1) Ar_145.2.2 in_145 (Has.at H_145 in_145 rfl) (g := (mkF m 209 #[.val (.int (6 : Int32)), .val (.ref a2)] [(.int (2 : Int32)), (.ref a2), (.int (2 : Int32)), (.ref b_134), (.ref b_134), (.ref b_131), (.ref b_131)])) rfl rfl (hb hby d2_209)) ?_
    show own_Go p e below _ (T_142.setTop (mkF m 210 #[.val (.int (6 : Int32)), .val (.ref a2)] [(.int c2), (.int (2 : Int32)), (.ref b_134), (.ref b_134), (.ref b_131), (.ref b_131)]))
    obtain ⟨cl_146, Ar_146, q_146, S_146, M_146, H_146, G_146⟩ := (id V_143)
    obtain ⟨T_146, h_146, X_146, e_146, W_146, st_146⟩ := stC X_142 hx hZ e_142 Ar_146 (j := (2 : Int32)) (inb_of S_146 ⟨by decide, by decide⟩) (g := (mkF m 210 #[.val (.int (6 : Int32)), .val (.ref a2)] [(.int c2), (.int (2 : Int32)), (.ref b_134), (.ref b_134), (.ref b_131), (.ref b_131)])) rfl rfl (hb hby d2_210)
    have V_146 : Arv Z h_146 b_134 k_134 .char (6 : Int32) [(.int c0), (.int c1), (.int (nar .char c2)), (.int (0 : Int32)), (.int (0 : Int32)), (.int (0 : Int32))] (.int (0 : Int32)) := Arv.set Ar_146 q_146 S_146 M_146 H_146 G_146 (fits_nar_char _) W_146 2 rfl (Nat.le_of_ble_eq_true rfl)
    have N_146 := Fr.snoc X_146 N_142 (Nat.le_trans Z0 (Nat.le_trans K_135.1 (Nat.le_of_eq g_134.symm)))
    refine own_via st_146 ?_
    show own_Go p e below _ (T_146.setTop (mkF m 211 #[.val (.int (6 : Int32)), .val (.ref a2)] [(.ref b_134), (.ref b_131), (.ref b_131)]))
    have V_147 : Arv Z h_146 b_134 k_134 .char (6 : Int32) [(.int c0), (.int c1), (.int c2), (.int (0 : Int32)), (.int (0 : Int32)), (.int (0 : Int32))] (.int (0 : Int32)) := by have q := V_146; rwa [own_nar hb2] at q
    refine own_via (fun _ => XS.dup X_146.here hx rfl (hb hby d2_211) rfl rfl) ?_
    show own_Go p e below _ (T_146.setTop (mkF m 212 #[.val (.int (6 : Int32)), .val (.ref a2)] [(.ref b_134), (.ref b_134), (.ref b_131), (.ref b_131)]))
    refine own_via (fun _ => XS.iconst X_146.here hx rfl (hb hby d2_212)) ?_
    show own_Go p e below _ (T_146.setTop (mkF m 213 #[.val (.int (6 : Int32)), .val (.ref a2)] [(.int (3 : Int32)), (.ref b_134), (.ref b_134), (.ref b_131), (.ref b_131)]))
    refine own_via (fun _ => XS.aloadN X_146.here hx rfl (hb hby d2_213) rfl rfl) ?_
    show own_Go p e below _ (T_146.setTop (mkF m 214 #[.val (.int (6 : Int32)), .val (.ref a2)] [(.ref a2), (.int (3 : Int32)), (.ref b_134), (.ref b_134), (.ref b_131), (.ref b_131)]))
    refine own_via (fun _ => XS.iconst X_146.here hx rfl (hb hby d2_214)) ?_
    show own_Go p e below _ (T_146.setTop (mkF m 215 #[.val (.int (6 : Int32)), .val (.ref a2)] [(.int (3 : Int32)), (.ref a2), (.int (3 : Int32)), (.ref b_134), (.ref b_134), (.ref b_131), (.ref b_131)]))
    have K_148 : Keep h0 h_146 [] := Keep.wr (ws := []) K_144 W_146 (Or.inr (Nat.le_trans K_135.1 (Nat.le_of_eq g_134.symm)))
    obtain ⟨cl_149, Ar_149, q_149, S_149, M_149, H_149, G_149⟩ := (id (A2.keep K_148 nin0))
    have in_149 : ¬ ((3 : Int32) < 0 ∨ cl_149.slots.size ≤ ((3 : Int32)).toNatClampNeg) := inb_of S_149 ⟨by decide, by decide⟩
    refine own_via (X_146.caload hx (j := (3 : Int32)) (v := (.int c3)) (by rw [e_146]; exact Ar_149.1) (State.isArrayOf_alike hZ.alike Ar_149.2.1) Ar_149.2.2 in_149 (Has.at H_149 in_149 rfl) (g := (mkF m 215 #[.val (.int (6 : Int32)), .val (.ref a2)] [(.int (3 : Int32)), (.ref a2), (.int (3 : Int32)), (.ref b_134), (.ref b_134), (.ref b_131), (.ref b_131)])) rfl rfl (hb hby d2_215)) ?_
    show own_Go p e below _ (T_146.setTop (mkF m 216 #[.val (.int (6 : Int32)), .val (.ref a2)] [(.int c3), (.int (3 : Int32)), (.ref b_134), (.ref b_134), (.ref b_131), (.ref b_131)]))
    obtain ⟨cl_150, Ar_150, q_150, S_150, M_150, H_150, G_150⟩ := (id V_147)
    obtain ⟨T_150, h_150, X_150, e_150, W_150, st_150⟩ := stC X_146 hx hZ e_146 Ar_150 (j := (3 : Int32)) (inb_of S_150 ⟨by decide, by decide⟩) (g := (mkF m 216 #[.val (.int (6 : Int32)), .val (.ref a2)] [(.int c3), (.int (3 : Int32)), (.ref b_134), (.ref b_134), (.ref b_131), (.ref b_131)])) rfl rfl (hb hby d2_216)
    have V_150 : Arv Z h_150 b_134 k_134 .char (6 : Int32) [(.int c0), (.int c1), (.int c2), (.int (nar .char c3)), (.int (0 : Int32)), (.int (0 : Int32))] (.int (0 : Int32)) := Arv.set Ar_150 q_150 S_150 M_150 H_150 G_150 (fits_nar_char _) W_150 3 rfl (Nat.le_of_ble_eq_true rfl)
    have N_150 := Fr.snoc X_150 N_146 (Nat.le_trans Z0 (Nat.le_trans K_135.1 (Nat.le_of_eq g_134.symm)))
    refine own_via st_150 ?_
    show own_Go p e below _ (T_150.setTop (mkF m 217 #[.val (.int (6 : Int32)), .val (.ref a2)] [(.ref b_134), (.ref b_131), (.ref b_131)]))
    have V_151 : Arv Z h_150 b_134 k_134 .char (6 : Int32) [(.int c0), (.int c1), (.int c2), (.int c3), (.int (0 : Int32)), (.int (0 : Int32))] (.int (0 : Int32)) := by have q := V_150; rwa [own_nar hb3] at q
    refine own_via (fun _ => XS.dup X_150.here hx rfl (hb hby d2_217) rfl rfl) ?_
    show own_Go p e below _ (T_150.setTop (mkF m 218 #[.val (.int (6 : Int32)), .val (.ref a2)] [(.ref b_134), (.ref b_134), (.ref b_131), (.ref b_131)]))
    refine own_via (fun _ => XS.iconst X_150.here hx rfl (hb hby d2_218)) ?_
    show own_Go p e below _ (T_150.setTop (mkF m 219 #[.val (.int (6 : Int32)), .val (.ref a2)] [(.int (4 : Int32)), (.ref b_134), (.ref b_134), (.ref b_131), (.ref b_131)]))
    refine own_via (fun _ => XS.aloadN X_150.here hx rfl (hb hby d2_219) rfl rfl) ?_
    show own_Go p e below _ (T_150.setTop (mkF m 220 #[.val (.int (6 : Int32)), .val (.ref a2)] [(.ref a2), (.int (4 : Int32)), (.ref b_134), (.ref b_134), (.ref b_131), (.ref b_131)]))
    refine own_via (fun _ => XS.iconst X_150.here hx rfl (hb hby d2_220)) ?_
    show own_Go p e below _ (T_150.setTop (mkF m 221 #[.val (.int (6 : Int32)), .val (.ref a2)] [(.int (4 : Int32)), (.ref a2), (.int (4 : Int32)), (.ref b_134), (.ref b_134), (.ref b_131), (.ref b_131)]))
    have K_152 : Keep h0 h_150 [] := Keep.wr (ws := []) K_148 W_150 (Or.inr (Nat.le_trans K_135.1 (Nat.le_of_eq g_134.symm)))
    obtain ⟨cl_153, Ar_153, q_153, S_153, M_153, H_153, G_153⟩ := (id (A2.keep K_152 nin0))
    have in_153 : ¬ ((4 : Int32) < 0 ∨ cl_153.slots.size ≤ ((4 : Int32)).toNatClampNeg) := inb_of S_153 ⟨by decide, by decide⟩
    refine own_via (X_150.caload hx (j := (4 : Int32)) (v := (.int c4)) (by rw [e_150]; exact Ar_153.1) (State.isArrayOf_alike hZ.alike Ar_153.2.1) Ar_153.2.2 in_153 (Has.at H_153 in_153 rfl) (g := (mkF m 221 #[.val (.int (6 : Int32)), .val (.ref a2)] [(.int (4 : Int32)), (.ref a2), (.int (4 : Int32)), (.ref b_134), (.ref b_134), (.ref b_131), (.ref b_131)])) rfl rfl (hb hby d2_221)) ?_
    show own_Go p e below _ (T_150.setTop (mkF m 222 #[.val (.int (6 : Int32)), .val (.ref a2)] [(.int c4), (.int (4 : Int32)), (.ref b_134), (.ref b_134), (.ref b_131), (.ref b_131)]))
    obtain ⟨cl_154, Ar_154, q_154, S_154, M_154, H_154, G_154⟩ := (id V_151)
    obtain ⟨T_154, h_154, X_154, e_154, W_154, st_154⟩ := stC X_150 hx hZ e_150 Ar_154 (j := (4 : Int32)) (inb_of S_154 ⟨by decide, by decide⟩) (g := (mkF m 222 #[.val (.int (6 : Int32)), .val (.ref a2)] [(.int c4), (.int (4 : Int32)), (.ref b_134), (.ref b_134), (.ref b_131), (.ref b_131)])) rfl rfl (hb hby d2_222)
    have V_154 : Arv Z h_154 b_134 k_134 .char (6 : Int32) [(.int c0), (.int c1), (.int c2), (.int c3), (.int (nar .char c4)), (.int (0 : Int32))] (.int (0 : Int32)) := Arv.set Ar_154 q_154 S_154 M_154 H_154 G_154 (fits_nar_char _) W_154 4 rfl (Nat.le_of_ble_eq_true rfl)
    have N_154 := Fr.snoc X_154 N_150 (Nat.le_trans Z0 (Nat.le_trans K_135.1 (Nat.le_of_eq g_134.symm)))
    refine own_via st_154 ?_
    show own_Go p e below _ (T_154.setTop (mkF m 223 #[.val (.int (6 : Int32)), .val (.ref a2)] [(.ref b_134), (.ref b_131), (.ref b_131)]))
    have V_155 : Arv Z h_154 b_134 k_134 .char (6 : Int32) [(.int c0), (.int c1), (.int c2), (.int c3), (.int c4), (.int (0 : Int32))] (.int (0 : Int32)) := by have q := V_154; rwa [own_nar hb4] at q
    refine own_via (fun _ => XS.dup X_154.here hx rfl (hb hby d2_223) rfl rfl) ?_
    show own_Go p e below _ (T_154.setTop (mkF m 224 #[.val (.int (6 : Int32)), .val (.ref a2)] [(.ref b_134), (.ref b_134), (.ref b_131), (.ref b_131)]))
    refine own_via (fun _ => XS.iconst X_154.here hx rfl (hb hby d2_224)) ?_
    show own_Go p e below _ (T_154.setTop (mkF m 225 #[.val (.int (6 : Int32)), .val (.ref a2)] [(.int (5 : Int32)), (.ref b_134), (.ref b_134), (.ref b_131), (.ref b_131)]))
    refine own_via (fun _ => XS.aloadN X_154.here hx rfl (hb hby d2_225) rfl rfl) ?_
    show own_Go p e below _ (T_154.setTop (mkF m 226 #[.val (.int (6 : Int32)), .val (.ref a2)] [(.ref a2), (.int (5 : Int32)), (.ref b_134), (.ref b_134), (.ref b_131), (.ref b_131)]))
    refine own_via (fun _ => XS.iconst X_154.here hx rfl (hb hby d2_226)) ?_
    show own_Go p e below _ (T_154.setTop (mkF m 227 #[.val (.int (6 : Int32)), .val (.ref a2)] [(.int (5 : Int32)), (.ref a2), (.int (5 : Int32)), (.ref b_134), (.ref b_134), (.ref b_131), (.ref b_131)]))
    have K_156 : Keep h0 h_154 [] := Keep.wr (ws := []) K_152 W_154 (Or.inr (Nat.le_trans K_135.1 (Nat.le_of_eq g_134.symm)))
    obtain ⟨cl_157, Ar_157, q_157, S_157, M_157, H_157, G_157⟩ := (id (A2.keep K_156 nin0))
    have in_157 : ¬ ((5 : Int32) < 0 ∨ cl_157.slots.size ≤ ((5 : Int32)).toNatClampNeg) := inb_of S_157 ⟨by decide, by decide⟩
    refine own_via (X_154.caload hx (j := (5 : Int32)) (v := (.int c5)) (by rw [e_154]; exact Ar_157.1) (State.isArrayOf_alike hZ.alike Ar_157.2.1) Ar_157.2.2 in_157 (Has.at H_157 in_157 rfl) (g := (mkF m 227 #[.val (.int (6 : Int32)), .val (.ref a2)] [(.int (5 : Int32)), (.ref a2), (.int (5 : Int32)), (.ref b_134), (.ref b_134), (.ref b_131), (.ref b_131)])) rfl rfl (hb hby d2_227)) ?_
    show own_Go p e below _ (T_154.setTop (mkF m 228 #[.val (.int (6 : Int32)), .val (.ref a2)] [(.int c5), (.int (5 : Int32)), (.ref b_134), (.ref b_134), (.ref b_131), (.ref b_131)]))
    obtain ⟨cl_158, Ar_158, q_158, S_158, M_158, H_158, G_158⟩ := (id V_155)
    obtain ⟨T_158, h_158, X_158, e_158, W_158, st_158⟩ := stC X_154 hx hZ e_154 Ar_158 (j := (5 : Int32)) (inb_of S_158 ⟨by decide, by decide⟩) (g := (mkF m 228 #[.val (.int (6 : Int32)), .val (.ref a2)] [(.int c5), (.int (5 : Int32)), (.ref b_134), (.ref b_134), (.ref b_131), (.ref b_131)])) rfl rfl (hb hby d2_228)
    have V_158 : Arv Z h_158 b_134 k_134 .char (6 : Int32) [(.int c0), (.int c1), (.int c2), (.int c3), (.int c4), (.int (nar .char c5))] (.int (0 : Int32)) := Arv.set Ar_158 q_158 S_158 M_158 H_158 G_158 (fits_nar_char _) W_158 5 rfl (Nat.le_of_ble_eq_true rfl)
    have N_158 := Fr.snoc X_158 N_154 (Nat.le_trans Z0 (Nat.le_trans K_135.1 (Nat.le_of_eq g_134.symm)))
    refine own_via st_158 ?_
    show own_Go p e below _ (T_158.setTop (mkF m 229 #[.val (.int (6 : Int32)), .val (.ref a2)] [(.ref b_134), (.ref b_131), (.ref b_131)]))
    have V_159 : Arv Z h_158 b_134 k_134 .char (6 : Int32) [(.int c0), (.int c1), (.int c2), (.int c3), (.int c4), (.int c5)] (.int (0 : Int32)) := by have q := V_158; rwa [own_nar hb5] at q
    have hp : ∀ c ∈ ([c0, c1, c2, c3, c4, c5] : List Int32), ¬ c < 0 ∧ ¬ (255 : Int32) < c := by intro c hc; simp only [List.mem_cons, List.not_mem_nil, or_false] at hc; rcases hc with rfl | rfl | rfl | rfl | rfl | rfl <;> assumption
    have K_160 : Keep h_131 h_134 [] := (Keep.refl h_131 []).ext E_134
    have K_161 : Keep h_131 h_138 [] := Keep.wr (ws := []) K_160 W_138 (Or.inr (Nat.le_of_eq g_134.symm))
    have K_162 : Keep h_131 h_142 [] := Keep.wr (ws := []) K_161 W_142 (Or.inr (Nat.le_of_eq g_134.symm))
    have K_163 : Keep h_131 h_146 [] := Keep.wr (ws := []) K_162 W_146 (Or.inr (Nat.le_of_eq g_134.symm))
    have K_164 : Keep h_131 h_150 [] := Keep.wr (ws := []) K_163 W_150 (Or.inr (Nat.le_of_eq g_134.symm))
    have K_165 : Keep h_131 h_154 [] := Keep.wr (ws := []) K_164 W_154 (Or.inr (Nat.le_of_eq g_134.symm))
    have K_166 : Keep h_131 h_158 [] := Keep.wr (ws := []) K_165 W_158 (Or.inr (Nat.le_of_eq g_134.symm))
    have K_167 : Keep h0 h_158 [] := Keep.wr (ws := []) K_156 W_158 (Or.inr (Nat.le_trans K_135.1 (Nat.le_of_eq g_134.symm)))
    obtain ⟨_, _, ⟨T_168, L_168, k_168, n_168⟩, -, X_168, ⟨Lc_168, hQ_168, l_168, y_168, z_168⟩, st_168⟩ := X_158.specialBack hx (y := (⟨"java/lang/String", "<init>", "([C)V"⟩ : MethodName)) rfl hown (mvT hZ (own_w hw 11 rfl)) (mvT hZ (own_w hw 12 rfl)) (mvT hZ (own_w hw 13 rfl)) (by decide) (StrChars.Road.backV (W := 1) hZ (own_hwords hw) (kI := 4) (own_w hw 9 rfl) (cs := ([c0, c1, c2, c3, c4, c5] : List Int32)) (bs := ([c0, c1, c2, c3, c4, c5] : List Int32).map (fun c => c.toInt8.toInt32)) (n := 6) (Nat.le_trans Z0 (Nat.le_of_eq g_131.symm)) (Nat.le_trans Z0 K_167.1) (A_131.keep K_166) (F_133.keep K_166 nin0) (F_132.keep K_166 nin0) V_159 (Scs.ext (O0.keep K_167 all0).2) hcs rfl rfl (by decide) (by decide) hp rfl (by decide) (by decide)) (g := (mkF m 229 #[.val (.int (6 : Int32)), .val (.ref a2)] [(.ref b_134), (.ref b_131), (.ref b_131)])) rfl (by rw [hml]; rfl) (Steps.refl _) (a := b_131) (argsL := [(.ref b_134)]) (rest := [(.ref b_131)]) (lenOf pd_4 rfl) rfl (by show 2 * 0 + _ ≤ _; exact Nat.le_of_eq rfl) (hb hby d2_229) (fun _ _ => ⟨rfl, e_158, (by decide : 2 + 1 ≤ _), (by decide : 10 + 6 ≤ _)⟩)
    dsimp only [Pt.U, Pt.locs, Pt.cells, Pt.slots] at X_168 l_168 y_168 z_168 st_168 hQ_168
    subst l_168 y_168 z_168
    obtain ⟨rfl, Nq_168, K_168q, EX_168, FC_168, t_168, kb_168, -, ft_168, -, FV_168, FA_168⟩ := hQ_168
    have N_168 := Fr.app N_158 Nq_168
    refine own_via (fun _ k => st_168.trans k) ?_
    show own_Go p e below _ (T_168.setTop (mkF m 232 #[.val (.int (6 : Int32)), .val (.ref a2)] [(.ref b_131)]))
    have K_169 : Keep h0 T_168.heap [] := Keep.trans (ws := []) K_167 K_168q (allS (Or.inr (Nat.le_of_eq g_131.symm)) all0)
    exact own_retvW X_168 hS0 (Nat.le_trans (Nat.zero_le _) K_169.1) Bd.notSynchronized hx Bd.returns rfl (Or.inr (Or.inr (Or.inr (Or.inr ⟨rfl, rfl, rfl⟩)))) (hb hby d2_232) (by decide) (by decide) ⟨b_131, rfl, N_168, K_169, (Nat.le_of_eq g_131.symm), EX_168, ⟨EX_168, FC_168, ⟨t_168, kb_168, FV_168, FA_168⟩, hp, (by simp)⟩, (own_CHstay (J0.keep K_169 all0) hZ (own_EW hw) X_168.warmed)⟩
theorem d9_0 : decode method_4_code 0 = .ok (.iload_n 2, 1) := by decide +kernel
theorem d9_1 : decode method_4_code 1 = .ok (.iconst 3, 1) := by decide +kernel
theorem d9_2 : decode method_4_code 2 = .ok (.iadd, 1) := by decide +kernel
theorem d9_3 : decode method_4_code 3 = .ok (.iload_n 1, 1) := by decide +kernel
theorem d9_4 : decode method_4_code 4 = .ok (.if_icmp .gt 35, 3) := by decide +kernel
theorem d9_7 : decode method_4_code 7 = .ok (.aload_n 0, 1) := by decide +kernel
theorem d9_8 : decode method_4_code 8 = .ok (.iload_n 2, 1) := by decide +kernel
theorem d9_9 : decode method_4_code 9 = .ok (.caload, 1) := by decide +kernel
theorem d9_10 : decode method_4_code 10 = .ok (.bipush 64, 2) := by decide +kernel
theorem d9_12 : decode method_4_code 12 = .ok (.if_icmp .ne 27, 3) := by decide +kernel
theorem d9_15 : decode method_4_code 15 = .ok (.aload_n 0, 1) := by decide +kernel
theorem d9_16 : decode method_4_code 16 = .ok (.iload_n 2, 1) := by decide +kernel
theorem d9_17 : decode method_4_code 17 = .ok (.iconst 1, 1) := by decide +kernel
theorem d9_18 : decode method_4_code 18 = .ok (.iadd, 1) := by decide +kernel
theorem d9_19 : decode method_4_code 19 = .ok (.caload, 1) := by decide +kernel
theorem d9_20 : decode method_4_code 20 = .ok (.bipush 45, 2) := by decide +kernel
theorem d9_22 : decode method_4_code 22 = .ok (.if_icmp .ne 17, 3) := by decide +kernel
theorem d9_25 : decode method_4_code 25 = .ok (.aload_n 0, 1) := by decide +kernel
theorem d9_26 : decode method_4_code 26 = .ok (.iload_n 2, 1) := by decide +kernel
theorem d9_27 : decode method_4_code 27 = .ok (.iconst 2, 1) := by decide +kernel
theorem d9_28 : decode method_4_code 28 = .ok (.iadd, 1) := by decide +kernel
theorem d9_29 : decode method_4_code 29 = .ok (.caload, 1) := by decide +kernel
theorem d9_30 : decode method_4_code 30 = .ok (.bipush 64, 2) := by decide +kernel
theorem d9_32 : decode method_4_code 32 = .ok (.if_icmp .ne 7, 3) := by decide +kernel
theorem d9_35 : decode method_4_code 35 = .ok (.iconst 1, 1) := by decide +kernel
theorem d9_36 : decode method_4_code 36 = .ok (.goto 4, 3) := by decide +kernel
theorem d9_39 : decode method_4_code 39 = .ok (.iconst 0, 1) := by decide +kernel
theorem d9_40 : decode method_4_code 40 = .ok (.ireturn, 1) := by decide +kernel
theorem ef_sep0 (m : MethodId) (a1 : Addr) (p2 : Int32) : entryFrame m #[(.ref a1), (.int p2), (.int (0 : Int32))] 3 = mkF m 0 #[.val (.ref a1), .val (.int p2), .val (.int (0 : Int32))] [] := by first | (simp [entryFrame, mkF, argsToLocals, Value.category]; done) | rfl
def Qsep0 (Z : State) (a1 : Addr) (p2 : Int32) (kc : ClassId) (c0 : Int32) (c1 : Int32) (c2 : Int32) (c3 : Int32) (c4 : Int32) (c5 : Int32) (h0 : Heap) (n0 : Nat) (v : Option Value) (h : Heap) (L : List Loc) : Prop := ∃ z : Int32, v = some (.int z) ∧ Fr n0 L ∧ h = h0 ∧ (z = if p2 < 3 then 0 else if c0 = 64 then (if c1 = 45 then (if c2 = 64 then 1 else 0) else 0) else 0)
set_option maxRecDepth 65536 in
set_option maxHeartbeats 40000000 in
theorem rmsep0 (l : Launch) (Z : State) (a0 : Array Value) (hw : ∀ d ∈ tables_1, d.before a0 Z = true) (ws : List Jvm.Cond) (a1 : Addr) (p2 : Int32) (kc : ClassId) (c0 : Int32) (c1 : Int32) (c2 : Int32) (c3 : Int32) (c4 : Int32) (c5 : Int32) (h0 : Heap) (n0 : Nat) (Z0 : n0 ≤ h0.size) (A1 : Arv Z h0 a1 kc .char (6 : Int32) [(.int c0), (.int c1), (.int c2), (.int c3), (.int c4), (.int c5)] (.int (0 : Int32))) :
    MetFree l (⟨"com/example/hollow_crown/hollowcrown/instance/InstanceIdIpOfPinLaw", "sepAt", "([CII)Z"⟩ : MethodName) (head1 (Jvm.Cond.code (⟨"com/example/hollow_crown/hollowcrown/instance/InstanceIdIpOfPinLaw", "sepAt", "([CII)Z"⟩ : MethodName) method_4_code 3 (some .boolean) :: ws) ({ frames := 0, cells := 0, slots := 0, locals := 0 } : Room)) (fun a U => a = #[(.ref a1), (.int p2), (.int (0 : Int32))] ∧ Z.Warmed39 U.vm ∧ U.heap = h0) (fun _ _ _ _ _ => True) (fun _ U o U' => ∃ v L, o = .returned v ∧ Qsep0 Z a1 p2 kc c0 c1 c2 c3 c4 c5 h0 n0 v U'.heap L ∧ FrameEnd U o U' L ({ frames := 0, cells := 0, slots := 0, locals := 0 } : Room).cells ({ frames := 0, cells := 0, slots := 0, locals := 0 } : Room).slots) := by
  refine MetFree.of_bodySF (plainFor_of_name pn_com_example_hollow_crown_hollowcrown_instance_InstanceIdIpOfPinLaw) hisR ?_
  intro p e s m args below meth c s₁ Bd hml0 hP hK
  obtain ⟨rfl, hZ, hH0⟩ := hP
  have hx := Bd.exec
  have hby := Bd.bytes
  have hml : c.maxLocals = 3 := hml0
  have hown : s.vm.findClass "com/example/hollow_crown/hollowcrown/instance/InstanceIdIpOfPinLaw" = some m.cls := findClass_of_methodNamed Bd.named
  have hnm := (name_of_methodNamed Bd.named Bd.method).1
  have X0 : Stand p l e ({ frames := 0, cells := 0, slots := 0, locals := 0 } : Room) s m #[(.ref a1), (.int p2), (.int (0 : Int32))] below meth c s₁ [] 0 0 := Stand.of_body Bd
  have e0 : s₁.heap = h0 := by rw [← hH0, Bd.state]; rfl
  have N0 := Fr.nil n0
  refine own_cast (ef_sep0 m a1 p2) ?_
  show own_Go p e below (fun o U' => ∃ v L, o = .returned v ∧ Qsep0 Z a1 p2 kc c0 c1 c2 c3 c4 c5 h0 n0 v U'.heap L ∧ FrameEnd s o U' L ({ frames := 0, cells := 0, slots := 0, locals := 0 } : Room).cells ({ frames := 0, cells := 0, slots := 0, locals := 0 } : Room).slots) (s₁.setTop (mkF m 0 #[.val (.ref a1), .val (.int p2), .val (.int (0 : Int32))] []))
  refine own_via (fun _ => XS.iloadN X0.here hx rfl (hb hby d9_0) rfl) ?_
  show own_Go p e below _ (s₁.setTop (mkF m 1 #[.val (.ref a1), .val (.int p2), .val (.int (0 : Int32))] [(.int (0 : Int32))]))
  refine own_via (fun _ => XS.iconst X0.here hx rfl (hb hby d9_1)) ?_
  show own_Go p e below _ (s₁.setTop (mkF m 2 #[.val (.ref a1), .val (.int p2), .val (.int (0 : Int32))] [(.int (3 : Int32)), (.int (0 : Int32))]))
  refine own_via (fun _ => XS.iadd X0.here hx rfl (hb hby d9_2) rfl) ?_
  show own_Go p e below _ (s₁.setTop (mkF m 3 #[.val (.ref a1), .val (.int p2), .val (.int (0 : Int32))] [(.int (3 : Int32))]))
  refine own_via (fun _ => XS.iloadN X0.here hx rfl (hb hby d9_3) rfl) ?_
  show own_Go p e below _ (s₁.setTop (mkF m 4 #[.val (.ref a1), .val (.int p2), .val (.int (0 : Int32))] [(.int p2), (.int (3 : Int32))]))
  by_cases hs0 : p2 < (3 : Int32)
  · refine own_via (fun _ => XS.icmpYes X0.here hx rfl (pc0 := 4) (pc' := 39) rfl (hb hby d9_4) rfl (tlt (hs0 : p2 < (3 : Int32))).2.2.1 (by decide) (by decide)) ?_
    show own_Go p e below _ (s₁.setTop (mkF m 39 #[.val (.ref a1), .val (.int p2), .val (.int (0 : Int32))] []))
    refine own_via (fun _ => XS.iconst X0.here hx rfl (hb hby d9_39)) ?_
    show own_Go p e below _ (s₁.setTop (mkF m 40 #[.val (.ref a1), .val (.int p2), .val (.int (0 : Int32))] [(.int (0 : Int32))]))
    exact own_retv X0 Bd.notSynchronized hx Bd.returns rfl (Or.inl ⟨rfl, (by simp), _, rfl⟩) (hb hby d9_40) (by decide) (by decide) (by rw [e0]; exact ⟨(0 : Int32), rfl, N0, rfl, (by simp_all)⟩)
  · refine own_via (fun _ => XS.icmpNo X0.here hx rfl (hb hby d9_4) rfl (flt (hs0 : ¬ (p2 < (3 : Int32)))).2.2.1) ?_
    show own_Go p e below _ (s₁.setTop (mkF m 7 #[.val (.ref a1), .val (.int p2), .val (.int (0 : Int32))] []))
    refine own_via (fun _ => XS.aloadN X0.here hx rfl (hb hby d9_7) rfl rfl) ?_
    show own_Go p e below _ (s₁.setTop (mkF m 8 #[.val (.ref a1), .val (.int p2), .val (.int (0 : Int32))] [(.ref a1)]))
    refine own_via (fun _ => XS.iloadN X0.here hx rfl (hb hby d9_8) rfl) ?_
    show own_Go p e below _ (s₁.setTop (mkF m 9 #[.val (.ref a1), .val (.int p2), .val (.int (0 : Int32))] [(.int (0 : Int32)), (.ref a1)]))
    obtain ⟨cl_1, Ar_1, q_1, S_1, M_1, H_1, G_1⟩ := (id A1)
    have in_1 : ¬ ((0 : Int32) < 0 ∨ cl_1.slots.size ≤ ((0 : Int32)).toNatClampNeg) := inb_of S_1 ⟨by decide, by decide⟩
    refine own_via (X0.caload hx (j := (0 : Int32)) (v := (.int c0)) (by rw [e0]; exact Ar_1.1) (State.isArrayOf_alike hZ.alike Ar_1.2.1) Ar_1.2.2 in_1 (Has.at H_1 in_1 rfl) (g := (mkF m 9 #[.val (.ref a1), .val (.int p2), .val (.int (0 : Int32))] [(.int (0 : Int32)), (.ref a1)])) rfl rfl (hb hby d9_9)) ?_
    show own_Go p e below _ (s₁.setTop (mkF m 10 #[.val (.ref a1), .val (.int p2), .val (.int (0 : Int32))] [(.int c0)]))
    refine own_via (fun _ => XS.bipush X0.here hx rfl (hb hby d9_10)) ?_
    show own_Go p e below _ (s₁.setTop (mkF m 12 #[.val (.ref a1), .val (.int p2), .val (.int (0 : Int32))] [(.int (64 : Int32)), (.int c0)]))
    by_cases h1 : c0 = (64 : Int32)
    · refine own_via (fun _ => XS.icmpNo X0.here hx rfl (hb hby d9_12) rfl (teq (h1 : c0 = (64 : Int32))).2) ?_
      show own_Go p e below _ (s₁.setTop (mkF m 15 #[.val (.ref a1), .val (.int p2), .val (.int (0 : Int32))] []))
      refine own_via (fun _ => XS.aloadN X0.here hx rfl (hb hby d9_15) rfl rfl) ?_
      show own_Go p e below _ (s₁.setTop (mkF m 16 #[.val (.ref a1), .val (.int p2), .val (.int (0 : Int32))] [(.ref a1)]))
      refine own_via (fun _ => XS.iloadN X0.here hx rfl (hb hby d9_16) rfl) ?_
      show own_Go p e below _ (s₁.setTop (mkF m 17 #[.val (.ref a1), .val (.int p2), .val (.int (0 : Int32))] [(.int (0 : Int32)), (.ref a1)]))
      refine own_via (fun _ => XS.iconst X0.here hx rfl (hb hby d9_17)) ?_
      show own_Go p e below _ (s₁.setTop (mkF m 18 #[.val (.ref a1), .val (.int p2), .val (.int (0 : Int32))] [(.int (1 : Int32)), (.int (0 : Int32)), (.ref a1)]))
      refine own_via (fun _ => XS.iadd X0.here hx rfl (hb hby d9_18) rfl) ?_
      show own_Go p e below _ (s₁.setTop (mkF m 19 #[.val (.ref a1), .val (.int p2), .val (.int (0 : Int32))] [(.int (1 : Int32)), (.ref a1)]))
      obtain ⟨cl_2, Ar_2, q_2, S_2, M_2, H_2, G_2⟩ := (id A1)
      have in_2 : ¬ ((1 : Int32) < 0 ∨ cl_2.slots.size ≤ ((1 : Int32)).toNatClampNeg) := inb_of S_2 ⟨by decide, by decide⟩
      refine own_via (X0.caload hx (j := (1 : Int32)) (v := (.int c1)) (by rw [e0]; exact Ar_2.1) (State.isArrayOf_alike hZ.alike Ar_2.2.1) Ar_2.2.2 in_2 (Has.at H_2 in_2 rfl) (g := (mkF m 19 #[.val (.ref a1), .val (.int p2), .val (.int (0 : Int32))] [(.int (1 : Int32)), (.ref a1)])) rfl rfl (hb hby d9_19)) ?_
      show own_Go p e below _ (s₁.setTop (mkF m 20 #[.val (.ref a1), .val (.int p2), .val (.int (0 : Int32))] [(.int c1)]))
      refine own_via (fun _ => XS.bipush X0.here hx rfl (hb hby d9_20)) ?_
      show own_Go p e below _ (s₁.setTop (mkF m 22 #[.val (.ref a1), .val (.int p2), .val (.int (0 : Int32))] [(.int (45 : Int32)), (.int c1)]))
      by_cases h2 : c1 = (45 : Int32)
      · refine own_via (fun _ => XS.icmpNo X0.here hx rfl (hb hby d9_22) rfl (teq (h2 : c1 = (45 : Int32))).2) ?_
        show own_Go p e below _ (s₁.setTop (mkF m 25 #[.val (.ref a1), .val (.int p2), .val (.int (0 : Int32))] []))
        refine own_via (fun _ => XS.aloadN X0.here hx rfl (hb hby d9_25) rfl rfl) ?_
        show own_Go p e below _ (s₁.setTop (mkF m 26 #[.val (.ref a1), .val (.int p2), .val (.int (0 : Int32))] [(.ref a1)]))
        refine own_via (fun _ => XS.iloadN X0.here hx rfl (hb hby d9_26) rfl) ?_
        show own_Go p e below _ (s₁.setTop (mkF m 27 #[.val (.ref a1), .val (.int p2), .val (.int (0 : Int32))] [(.int (0 : Int32)), (.ref a1)]))
        refine own_via (fun _ => XS.iconst X0.here hx rfl (hb hby d9_27)) ?_
        show own_Go p e below _ (s₁.setTop (mkF m 28 #[.val (.ref a1), .val (.int p2), .val (.int (0 : Int32))] [(.int (2 : Int32)), (.int (0 : Int32)), (.ref a1)]))
        refine own_via (fun _ => XS.iadd X0.here hx rfl (hb hby d9_28) rfl) ?_
        show own_Go p e below _ (s₁.setTop (mkF m 29 #[.val (.ref a1), .val (.int p2), .val (.int (0 : Int32))] [(.int (2 : Int32)), (.ref a1)]))
        obtain ⟨cl_3, Ar_3, q_3, S_3, M_3, H_3, G_3⟩ := (id A1)
        have in_3 : ¬ ((2 : Int32) < 0 ∨ cl_3.slots.size ≤ ((2 : Int32)).toNatClampNeg) := inb_of S_3 ⟨by decide, by decide⟩
        refine own_via (X0.caload hx (j := (2 : Int32)) (v := (.int c2)) (by rw [e0]; exact Ar_3.1) (State.isArrayOf_alike hZ.alike Ar_3.2.1) Ar_3.2.2 in_3 (Has.at H_3 in_3 rfl) (g := (mkF m 29 #[.val (.ref a1), .val (.int p2), .val (.int (0 : Int32))] [(.int (2 : Int32)), (.ref a1)])) rfl rfl (hb hby d9_29)) ?_
        show own_Go p e below _ (s₁.setTop (mkF m 30 #[.val (.ref a1), .val (.int p2), .val (.int (0 : Int32))] [(.int c2)]))
        refine own_via (fun _ => XS.bipush X0.here hx rfl (hb hby d9_30)) ?_
        show own_Go p e below _ (s₁.setTop (mkF m 32 #[.val (.ref a1), .val (.int p2), .val (.int (0 : Int32))] [(.int (64 : Int32)), (.int c2)]))
        by_cases h3 : c2 = (64 : Int32)
        · refine own_via (fun _ => XS.icmpNo X0.here hx rfl (hb hby d9_32) rfl (teq (h3 : c2 = (64 : Int32))).2) ?_
          show own_Go p e below _ (s₁.setTop (mkF m 35 #[.val (.ref a1), .val (.int p2), .val (.int (0 : Int32))] []))
          refine own_via (fun _ => XS.iconst X0.here hx rfl (hb hby d9_35)) ?_
          show own_Go p e below _ (s₁.setTop (mkF m 36 #[.val (.ref a1), .val (.int p2), .val (.int (0 : Int32))] [(.int (1 : Int32))]))
          refine own_via (fun _ => XS.goto X0.here hx rfl (pc0 := 36) (pc' := 40) rfl (hb hby d9_36) (by decide) (by decide)) ?_
          show own_Go p e below _ (s₁.setTop (mkF m 40 #[.val (.ref a1), .val (.int p2), .val (.int (0 : Int32))] [(.int (1 : Int32))]))
          exact own_retv X0 Bd.notSynchronized hx Bd.returns rfl (Or.inl ⟨rfl, (by simp), _, rfl⟩) (hb hby d9_40) (by decide) (by decide) (by rw [e0]; exact ⟨(1 : Int32), rfl, N0, rfl, (by simp_all)⟩)
        · refine own_via (fun _ => XS.icmpYes X0.here hx rfl (pc0 := 32) (pc' := 39) rfl (hb hby d9_32) rfl (feq (h3 : ¬ (c2 = (64 : Int32)))).2 (by decide) (by decide)) ?_
          show own_Go p e below _ (s₁.setTop (mkF m 39 #[.val (.ref a1), .val (.int p2), .val (.int (0 : Int32))] []))
          refine own_via (fun _ => XS.iconst X0.here hx rfl (hb hby d9_39)) ?_
          show own_Go p e below _ (s₁.setTop (mkF m 40 #[.val (.ref a1), .val (.int p2), .val (.int (0 : Int32))] [(.int (0 : Int32))]))
          exact own_retv X0 Bd.notSynchronized hx Bd.returns rfl (Or.inl ⟨rfl, (by simp), _, rfl⟩) (hb hby d9_40) (by decide) (by decide) (by rw [e0]; exact ⟨(0 : Int32), rfl, N0, rfl, (by simp_all)⟩)
      · refine own_via (fun _ => XS.icmpYes X0.here hx rfl (pc0 := 22) (pc' := 39) rfl (hb hby d9_22) rfl (feq (h2 : ¬ (c1 = (45 : Int32)))).2 (by decide) (by decide)) ?_
        show own_Go p e below _ (s₁.setTop (mkF m 39 #[.val (.ref a1), .val (.int p2), .val (.int (0 : Int32))] []))
        refine own_via (fun _ => XS.iconst X0.here hx rfl (hb hby d9_39)) ?_
        show own_Go p e below _ (s₁.setTop (mkF m 40 #[.val (.ref a1), .val (.int p2), .val (.int (0 : Int32))] [(.int (0 : Int32))]))
        exact own_retv X0 Bd.notSynchronized hx Bd.returns rfl (Or.inl ⟨rfl, (by simp), _, rfl⟩) (hb hby d9_40) (by decide) (by decide) (by rw [e0]; exact ⟨(0 : Int32), rfl, N0, rfl, (by simp_all)⟩)
    · refine own_via (fun _ => XS.icmpYes X0.here hx rfl (pc0 := 12) (pc' := 39) rfl (hb hby d9_12) rfl (feq (h1 : ¬ (c0 = (64 : Int32)))).2 (by decide) (by decide)) ?_
      show own_Go p e below _ (s₁.setTop (mkF m 39 #[.val (.ref a1), .val (.int p2), .val (.int (0 : Int32))] []))
      refine own_via (fun _ => XS.iconst X0.here hx rfl (hb hby d9_39)) ?_
      show own_Go p e below _ (s₁.setTop (mkF m 40 #[.val (.ref a1), .val (.int p2), .val (.int (0 : Int32))] [(.int (0 : Int32))]))
      exact own_retv X0 Bd.notSynchronized hx Bd.returns rfl (Or.inl ⟨rfl, (by simp), _, rfl⟩) (hb hby d9_40) (by decide) (by decide) (by rw [e0]; exact ⟨(0 : Int32), rfl, N0, rfl, (by simp_all)⟩)
theorem ef_sep1 (m : MethodId) (a1 : Addr) (p2 : Int32) : entryFrame m #[(.ref a1), (.int p2), (.int (1 : Int32))] 3 = mkF m 0 #[.val (.ref a1), .val (.int p2), .val (.int (1 : Int32))] [] := by first | (simp [entryFrame, mkF, argsToLocals, Value.category]; done) | rfl
def Qsep1 (Z : State) (a1 : Addr) (p2 : Int32) (kc : ClassId) (c0 : Int32) (c1 : Int32) (c2 : Int32) (c3 : Int32) (c4 : Int32) (c5 : Int32) (h0 : Heap) (n0 : Nat) (v : Option Value) (h : Heap) (L : List Loc) : Prop := ∃ z : Int32, v = some (.int z) ∧ Fr n0 L ∧ h = h0 ∧ (z = if p2 < 4 then 0 else if c1 = 64 then (if c2 = 45 then (if c3 = 64 then 1 else 0) else 0) else 0)
set_option maxRecDepth 65536 in
set_option maxHeartbeats 40000000 in
theorem rmsep1 (l : Launch) (Z : State) (a0 : Array Value) (hw : ∀ d ∈ tables_1, d.before a0 Z = true) (ws : List Jvm.Cond) (a1 : Addr) (p2 : Int32) (kc : ClassId) (c0 : Int32) (c1 : Int32) (c2 : Int32) (c3 : Int32) (c4 : Int32) (c5 : Int32) (h0 : Heap) (n0 : Nat) (Z0 : n0 ≤ h0.size) (A1 : Arv Z h0 a1 kc .char (6 : Int32) [(.int c0), (.int c1), (.int c2), (.int c3), (.int c4), (.int c5)] (.int (0 : Int32))) :
    MetFree l (⟨"com/example/hollow_crown/hollowcrown/instance/InstanceIdIpOfPinLaw", "sepAt", "([CII)Z"⟩ : MethodName) (head1 (Jvm.Cond.code (⟨"com/example/hollow_crown/hollowcrown/instance/InstanceIdIpOfPinLaw", "sepAt", "([CII)Z"⟩ : MethodName) method_4_code 3 (some .boolean) :: ws) ({ frames := 0, cells := 0, slots := 0, locals := 0 } : Room)) (fun a U => a = #[(.ref a1), (.int p2), (.int (1 : Int32))] ∧ Z.Warmed39 U.vm ∧ U.heap = h0) (fun _ _ _ _ _ => True) (fun _ U o U' => ∃ v L, o = .returned v ∧ Qsep1 Z a1 p2 kc c0 c1 c2 c3 c4 c5 h0 n0 v U'.heap L ∧ FrameEnd U o U' L ({ frames := 0, cells := 0, slots := 0, locals := 0 } : Room).cells ({ frames := 0, cells := 0, slots := 0, locals := 0 } : Room).slots) := by
  refine MetFree.of_bodySF (plainFor_of_name pn_com_example_hollow_crown_hollowcrown_instance_InstanceIdIpOfPinLaw) hisR ?_
  intro p e s m args below meth c s₁ Bd hml0 hP hK
  obtain ⟨rfl, hZ, hH0⟩ := hP
  have hx := Bd.exec
  have hby := Bd.bytes
  have hml : c.maxLocals = 3 := hml0
  have hown : s.vm.findClass "com/example/hollow_crown/hollowcrown/instance/InstanceIdIpOfPinLaw" = some m.cls := findClass_of_methodNamed Bd.named
  have hnm := (name_of_methodNamed Bd.named Bd.method).1
  have X0 : Stand p l e ({ frames := 0, cells := 0, slots := 0, locals := 0 } : Room) s m #[(.ref a1), (.int p2), (.int (1 : Int32))] below meth c s₁ [] 0 0 := Stand.of_body Bd
  have e0 : s₁.heap = h0 := by rw [← hH0, Bd.state]; rfl
  have N0 := Fr.nil n0
  refine own_cast (ef_sep1 m a1 p2) ?_
  show own_Go p e below (fun o U' => ∃ v L, o = .returned v ∧ Qsep1 Z a1 p2 kc c0 c1 c2 c3 c4 c5 h0 n0 v U'.heap L ∧ FrameEnd s o U' L ({ frames := 0, cells := 0, slots := 0, locals := 0 } : Room).cells ({ frames := 0, cells := 0, slots := 0, locals := 0 } : Room).slots) (s₁.setTop (mkF m 0 #[.val (.ref a1), .val (.int p2), .val (.int (1 : Int32))] []))
  refine own_via (fun _ => XS.iloadN X0.here hx rfl (hb hby d9_0) rfl) ?_
  show own_Go p e below _ (s₁.setTop (mkF m 1 #[.val (.ref a1), .val (.int p2), .val (.int (1 : Int32))] [(.int (1 : Int32))]))
  refine own_via (fun _ => XS.iconst X0.here hx rfl (hb hby d9_1)) ?_
  show own_Go p e below _ (s₁.setTop (mkF m 2 #[.val (.ref a1), .val (.int p2), .val (.int (1 : Int32))] [(.int (3 : Int32)), (.int (1 : Int32))]))
  refine own_via (fun _ => XS.iadd X0.here hx rfl (hb hby d9_2) rfl) ?_
  show own_Go p e below _ (s₁.setTop (mkF m 3 #[.val (.ref a1), .val (.int p2), .val (.int (1 : Int32))] [(.int (4 : Int32))]))
  refine own_via (fun _ => XS.iloadN X0.here hx rfl (hb hby d9_3) rfl) ?_
  show own_Go p e below _ (s₁.setTop (mkF m 4 #[.val (.ref a1), .val (.int p2), .val (.int (1 : Int32))] [(.int p2), (.int (4 : Int32))]))
  by_cases hs0 : p2 < (4 : Int32)
  · refine own_via (fun _ => XS.icmpYes X0.here hx rfl (pc0 := 4) (pc' := 39) rfl (hb hby d9_4) rfl (tlt (hs0 : p2 < (4 : Int32))).2.2.1 (by decide) (by decide)) ?_
    show own_Go p e below _ (s₁.setTop (mkF m 39 #[.val (.ref a1), .val (.int p2), .val (.int (1 : Int32))] []))
    refine own_via (fun _ => XS.iconst X0.here hx rfl (hb hby d9_39)) ?_
    show own_Go p e below _ (s₁.setTop (mkF m 40 #[.val (.ref a1), .val (.int p2), .val (.int (1 : Int32))] [(.int (0 : Int32))]))
    exact own_retv X0 Bd.notSynchronized hx Bd.returns rfl (Or.inl ⟨rfl, (by simp), _, rfl⟩) (hb hby d9_40) (by decide) (by decide) (by rw [e0]; exact ⟨(0 : Int32), rfl, N0, rfl, (by simp_all)⟩)
  · refine own_via (fun _ => XS.icmpNo X0.here hx rfl (hb hby d9_4) rfl (flt (hs0 : ¬ (p2 < (4 : Int32)))).2.2.1) ?_
    show own_Go p e below _ (s₁.setTop (mkF m 7 #[.val (.ref a1), .val (.int p2), .val (.int (1 : Int32))] []))
    refine own_via (fun _ => XS.aloadN X0.here hx rfl (hb hby d9_7) rfl rfl) ?_
    show own_Go p e below _ (s₁.setTop (mkF m 8 #[.val (.ref a1), .val (.int p2), .val (.int (1 : Int32))] [(.ref a1)]))
    refine own_via (fun _ => XS.iloadN X0.here hx rfl (hb hby d9_8) rfl) ?_
    show own_Go p e below _ (s₁.setTop (mkF m 9 #[.val (.ref a1), .val (.int p2), .val (.int (1 : Int32))] [(.int (1 : Int32)), (.ref a1)]))
    obtain ⟨cl_1, Ar_1, q_1, S_1, M_1, H_1, G_1⟩ := (id A1)
    have in_1 : ¬ ((1 : Int32) < 0 ∨ cl_1.slots.size ≤ ((1 : Int32)).toNatClampNeg) := inb_of S_1 ⟨by decide, by decide⟩
    refine own_via (X0.caload hx (j := (1 : Int32)) (v := (.int c1)) (by rw [e0]; exact Ar_1.1) (State.isArrayOf_alike hZ.alike Ar_1.2.1) Ar_1.2.2 in_1 (Has.at H_1 in_1 rfl) (g := (mkF m 9 #[.val (.ref a1), .val (.int p2), .val (.int (1 : Int32))] [(.int (1 : Int32)), (.ref a1)])) rfl rfl (hb hby d9_9)) ?_
    show own_Go p e below _ (s₁.setTop (mkF m 10 #[.val (.ref a1), .val (.int p2), .val (.int (1 : Int32))] [(.int c1)]))
    refine own_via (fun _ => XS.bipush X0.here hx rfl (hb hby d9_10)) ?_
    show own_Go p e below _ (s₁.setTop (mkF m 12 #[.val (.ref a1), .val (.int p2), .val (.int (1 : Int32))] [(.int (64 : Int32)), (.int c1)]))
    by_cases h1 : c1 = (64 : Int32)
    · refine own_via (fun _ => XS.icmpNo X0.here hx rfl (hb hby d9_12) rfl (teq (h1 : c1 = (64 : Int32))).2) ?_
      show own_Go p e below _ (s₁.setTop (mkF m 15 #[.val (.ref a1), .val (.int p2), .val (.int (1 : Int32))] []))
      refine own_via (fun _ => XS.aloadN X0.here hx rfl (hb hby d9_15) rfl rfl) ?_
      show own_Go p e below _ (s₁.setTop (mkF m 16 #[.val (.ref a1), .val (.int p2), .val (.int (1 : Int32))] [(.ref a1)]))
      refine own_via (fun _ => XS.iloadN X0.here hx rfl (hb hby d9_16) rfl) ?_
      show own_Go p e below _ (s₁.setTop (mkF m 17 #[.val (.ref a1), .val (.int p2), .val (.int (1 : Int32))] [(.int (1 : Int32)), (.ref a1)]))
      refine own_via (fun _ => XS.iconst X0.here hx rfl (hb hby d9_17)) ?_
      show own_Go p e below _ (s₁.setTop (mkF m 18 #[.val (.ref a1), .val (.int p2), .val (.int (1 : Int32))] [(.int (1 : Int32)), (.int (1 : Int32)), (.ref a1)]))
      refine own_via (fun _ => XS.iadd X0.here hx rfl (hb hby d9_18) rfl) ?_
      show own_Go p e below _ (s₁.setTop (mkF m 19 #[.val (.ref a1), .val (.int p2), .val (.int (1 : Int32))] [(.int (2 : Int32)), (.ref a1)]))
      obtain ⟨cl_2, Ar_2, q_2, S_2, M_2, H_2, G_2⟩ := (id A1)
      have in_2 : ¬ ((2 : Int32) < 0 ∨ cl_2.slots.size ≤ ((2 : Int32)).toNatClampNeg) := inb_of S_2 ⟨by decide, by decide⟩
      refine own_via (X0.caload hx (j := (2 : Int32)) (v := (.int c2)) (by rw [e0]; exact Ar_2.1) (State.isArrayOf_alike hZ.alike Ar_2.2.1) Ar_2.2.2 in_2 (Has.at H_2 in_2 rfl) (g := (mkF m 19 #[.val (.ref a1), .val (.int p2), .val (.int (1 : Int32))] [(.int (2 : Int32)), (.ref a1)])) rfl rfl (hb hby d9_19)) ?_
      show own_Go p e below _ (s₁.setTop (mkF m 20 #[.val (.ref a1), .val (.int p2), .val (.int (1 : Int32))] [(.int c2)]))
      refine own_via (fun _ => XS.bipush X0.here hx rfl (hb hby d9_20)) ?_
      show own_Go p e below _ (s₁.setTop (mkF m 22 #[.val (.ref a1), .val (.int p2), .val (.int (1 : Int32))] [(.int (45 : Int32)), (.int c2)]))
      by_cases h2 : c2 = (45 : Int32)
      · refine own_via (fun _ => XS.icmpNo X0.here hx rfl (hb hby d9_22) rfl (teq (h2 : c2 = (45 : Int32))).2) ?_
        show own_Go p e below _ (s₁.setTop (mkF m 25 #[.val (.ref a1), .val (.int p2), .val (.int (1 : Int32))] []))
        refine own_via (fun _ => XS.aloadN X0.here hx rfl (hb hby d9_25) rfl rfl) ?_
        show own_Go p e below _ (s₁.setTop (mkF m 26 #[.val (.ref a1), .val (.int p2), .val (.int (1 : Int32))] [(.ref a1)]))
        refine own_via (fun _ => XS.iloadN X0.here hx rfl (hb hby d9_26) rfl) ?_
        show own_Go p e below _ (s₁.setTop (mkF m 27 #[.val (.ref a1), .val (.int p2), .val (.int (1 : Int32))] [(.int (1 : Int32)), (.ref a1)]))
        refine own_via (fun _ => XS.iconst X0.here hx rfl (hb hby d9_27)) ?_
        show own_Go p e below _ (s₁.setTop (mkF m 28 #[.val (.ref a1), .val (.int p2), .val (.int (1 : Int32))] [(.int (2 : Int32)), (.int (1 : Int32)), (.ref a1)]))
        refine own_via (fun _ => XS.iadd X0.here hx rfl (hb hby d9_28) rfl) ?_
        show own_Go p e below _ (s₁.setTop (mkF m 29 #[.val (.ref a1), .val (.int p2), .val (.int (1 : Int32))] [(.int (3 : Int32)), (.ref a1)]))
        obtain ⟨cl_3, Ar_3, q_3, S_3, M_3, H_3, G_3⟩ := (id A1)
        have in_3 : ¬ ((3 : Int32) < 0 ∨ cl_3.slots.size ≤ ((3 : Int32)).toNatClampNeg) := inb_of S_3 ⟨by decide, by decide⟩
        refine own_via (X0.caload hx (j := (3 : Int32)) (v := (.int c3)) (by rw [e0]; exact Ar_3.1) (State.isArrayOf_alike hZ.alike Ar_3.2.1) Ar_3.2.2 in_3 (Has.at H_3 in_3 rfl) (g := (mkF m 29 #[.val (.ref a1), .val (.int p2), .val (.int (1 : Int32))] [(.int (3 : Int32)), (.ref a1)])) rfl rfl (hb hby d9_29)) ?_
        show own_Go p e below _ (s₁.setTop (mkF m 30 #[.val (.ref a1), .val (.int p2), .val (.int (1 : Int32))] [(.int c3)]))
        refine own_via (fun _ => XS.bipush X0.here hx rfl (hb hby d9_30)) ?_
        show own_Go p e below _ (s₁.setTop (mkF m 32 #[.val (.ref a1), .val (.int p2), .val (.int (1 : Int32))] [(.int (64 : Int32)), (.int c3)]))
        by_cases h3 : c3 = (64 : Int32)
        · refine own_via (fun _ => XS.icmpNo X0.here hx rfl (hb hby d9_32) rfl (teq (h3 : c3 = (64 : Int32))).2) ?_
          show own_Go p e below _ (s₁.setTop (mkF m 35 #[.val (.ref a1), .val (.int p2), .val (.int (1 : Int32))] []))
          refine own_via (fun _ => XS.iconst X0.here hx rfl (hb hby d9_35)) ?_
          show own_Go p e below _ (s₁.setTop (mkF m 36 #[.val (.ref a1), .val (.int p2), .val (.int (1 : Int32))] [(.int (1 : Int32))]))
          refine own_via (fun _ => XS.goto X0.here hx rfl (pc0 := 36) (pc' := 40) rfl (hb hby d9_36) (by decide) (by decide)) ?_
          show own_Go p e below _ (s₁.setTop (mkF m 40 #[.val (.ref a1), .val (.int p2), .val (.int (1 : Int32))] [(.int (1 : Int32))]))
          exact own_retv X0 Bd.notSynchronized hx Bd.returns rfl (Or.inl ⟨rfl, (by simp), _, rfl⟩) (hb hby d9_40) (by decide) (by decide) (by rw [e0]; exact ⟨(1 : Int32), rfl, N0, rfl, (by simp_all)⟩)
        · refine own_via (fun _ => XS.icmpYes X0.here hx rfl (pc0 := 32) (pc' := 39) rfl (hb hby d9_32) rfl (feq (h3 : ¬ (c3 = (64 : Int32)))).2 (by decide) (by decide)) ?_
          show own_Go p e below _ (s₁.setTop (mkF m 39 #[.val (.ref a1), .val (.int p2), .val (.int (1 : Int32))] []))
          refine own_via (fun _ => XS.iconst X0.here hx rfl (hb hby d9_39)) ?_
          show own_Go p e below _ (s₁.setTop (mkF m 40 #[.val (.ref a1), .val (.int p2), .val (.int (1 : Int32))] [(.int (0 : Int32))]))
          exact own_retv X0 Bd.notSynchronized hx Bd.returns rfl (Or.inl ⟨rfl, (by simp), _, rfl⟩) (hb hby d9_40) (by decide) (by decide) (by rw [e0]; exact ⟨(0 : Int32), rfl, N0, rfl, (by simp_all)⟩)
      · refine own_via (fun _ => XS.icmpYes X0.here hx rfl (pc0 := 22) (pc' := 39) rfl (hb hby d9_22) rfl (feq (h2 : ¬ (c2 = (45 : Int32)))).2 (by decide) (by decide)) ?_
        show own_Go p e below _ (s₁.setTop (mkF m 39 #[.val (.ref a1), .val (.int p2), .val (.int (1 : Int32))] []))
        refine own_via (fun _ => XS.iconst X0.here hx rfl (hb hby d9_39)) ?_
        show own_Go p e below _ (s₁.setTop (mkF m 40 #[.val (.ref a1), .val (.int p2), .val (.int (1 : Int32))] [(.int (0 : Int32))]))
        exact own_retv X0 Bd.notSynchronized hx Bd.returns rfl (Or.inl ⟨rfl, (by simp), _, rfl⟩) (hb hby d9_40) (by decide) (by decide) (by rw [e0]; exact ⟨(0 : Int32), rfl, N0, rfl, (by simp_all)⟩)
    · refine own_via (fun _ => XS.icmpYes X0.here hx rfl (pc0 := 12) (pc' := 39) rfl (hb hby d9_12) rfl (feq (h1 : ¬ (c1 = (64 : Int32)))).2 (by decide) (by decide)) ?_
      show own_Go p e below _ (s₁.setTop (mkF m 39 #[.val (.ref a1), .val (.int p2), .val (.int (1 : Int32))] []))
      refine own_via (fun _ => XS.iconst X0.here hx rfl (hb hby d9_39)) ?_
      show own_Go p e below _ (s₁.setTop (mkF m 40 #[.val (.ref a1), .val (.int p2), .val (.int (1 : Int32))] [(.int (0 : Int32))]))
      exact own_retv X0 Bd.notSynchronized hx Bd.returns rfl (Or.inl ⟨rfl, (by simp), _, rfl⟩) (hb hby d9_40) (by decide) (by decide) (by rw [e0]; exact ⟨(0 : Int32), rfl, N0, rfl, (by simp_all)⟩)
theorem ef_sep2 (m : MethodId) (a1 : Addr) (p2 : Int32) : entryFrame m #[(.ref a1), (.int p2), (.int (2 : Int32))] 3 = mkF m 0 #[.val (.ref a1), .val (.int p2), .val (.int (2 : Int32))] [] := by first | (simp [entryFrame, mkF, argsToLocals, Value.category]; done) | rfl
def Qsep2 (Z : State) (a1 : Addr) (p2 : Int32) (kc : ClassId) (c0 : Int32) (c1 : Int32) (c2 : Int32) (c3 : Int32) (c4 : Int32) (c5 : Int32) (h0 : Heap) (n0 : Nat) (v : Option Value) (h : Heap) (L : List Loc) : Prop := ∃ z : Int32, v = some (.int z) ∧ Fr n0 L ∧ h = h0 ∧ (z = if p2 < 5 then 0 else if c2 = 64 then (if c3 = 45 then (if c4 = 64 then 1 else 0) else 0) else 0)
set_option maxRecDepth 65536 in
set_option maxHeartbeats 40000000 in
theorem rmsep2 (l : Launch) (Z : State) (a0 : Array Value) (hw : ∀ d ∈ tables_1, d.before a0 Z = true) (ws : List Jvm.Cond) (a1 : Addr) (p2 : Int32) (kc : ClassId) (c0 : Int32) (c1 : Int32) (c2 : Int32) (c3 : Int32) (c4 : Int32) (c5 : Int32) (h0 : Heap) (n0 : Nat) (Z0 : n0 ≤ h0.size) (A1 : Arv Z h0 a1 kc .char (6 : Int32) [(.int c0), (.int c1), (.int c2), (.int c3), (.int c4), (.int c5)] (.int (0 : Int32))) :
    MetFree l (⟨"com/example/hollow_crown/hollowcrown/instance/InstanceIdIpOfPinLaw", "sepAt", "([CII)Z"⟩ : MethodName) (head1 (Jvm.Cond.code (⟨"com/example/hollow_crown/hollowcrown/instance/InstanceIdIpOfPinLaw", "sepAt", "([CII)Z"⟩ : MethodName) method_4_code 3 (some .boolean) :: ws) ({ frames := 0, cells := 0, slots := 0, locals := 0 } : Room)) (fun a U => a = #[(.ref a1), (.int p2), (.int (2 : Int32))] ∧ Z.Warmed39 U.vm ∧ U.heap = h0) (fun _ _ _ _ _ => True) (fun _ U o U' => ∃ v L, o = .returned v ∧ Qsep2 Z a1 p2 kc c0 c1 c2 c3 c4 c5 h0 n0 v U'.heap L ∧ FrameEnd U o U' L ({ frames := 0, cells := 0, slots := 0, locals := 0 } : Room).cells ({ frames := 0, cells := 0, slots := 0, locals := 0 } : Room).slots) := by
  refine MetFree.of_bodySF (plainFor_of_name pn_com_example_hollow_crown_hollowcrown_instance_InstanceIdIpOfPinLaw) hisR ?_
  intro p e s m args below meth c s₁ Bd hml0 hP hK
  obtain ⟨rfl, hZ, hH0⟩ := hP
  have hx := Bd.exec
  have hby := Bd.bytes
  have hml : c.maxLocals = 3 := hml0
  have hown : s.vm.findClass "com/example/hollow_crown/hollowcrown/instance/InstanceIdIpOfPinLaw" = some m.cls := findClass_of_methodNamed Bd.named
  have hnm := (name_of_methodNamed Bd.named Bd.method).1
  have X0 : Stand p l e ({ frames := 0, cells := 0, slots := 0, locals := 0 } : Room) s m #[(.ref a1), (.int p2), (.int (2 : Int32))] below meth c s₁ [] 0 0 := Stand.of_body Bd
  have e0 : s₁.heap = h0 := by rw [← hH0, Bd.state]; rfl
  have N0 := Fr.nil n0
  refine own_cast (ef_sep2 m a1 p2) ?_
  show own_Go p e below (fun o U' => ∃ v L, o = .returned v ∧ Qsep2 Z a1 p2 kc c0 c1 c2 c3 c4 c5 h0 n0 v U'.heap L ∧ FrameEnd s o U' L ({ frames := 0, cells := 0, slots := 0, locals := 0 } : Room).cells ({ frames := 0, cells := 0, slots := 0, locals := 0 } : Room).slots) (s₁.setTop (mkF m 0 #[.val (.ref a1), .val (.int p2), .val (.int (2 : Int32))] []))
  refine own_via (fun _ => XS.iloadN X0.here hx rfl (hb hby d9_0) rfl) ?_
  show own_Go p e below _ (s₁.setTop (mkF m 1 #[.val (.ref a1), .val (.int p2), .val (.int (2 : Int32))] [(.int (2 : Int32))]))
  refine own_via (fun _ => XS.iconst X0.here hx rfl (hb hby d9_1)) ?_
  show own_Go p e below _ (s₁.setTop (mkF m 2 #[.val (.ref a1), .val (.int p2), .val (.int (2 : Int32))] [(.int (3 : Int32)), (.int (2 : Int32))]))
  refine own_via (fun _ => XS.iadd X0.here hx rfl (hb hby d9_2) rfl) ?_
  show own_Go p e below _ (s₁.setTop (mkF m 3 #[.val (.ref a1), .val (.int p2), .val (.int (2 : Int32))] [(.int (5 : Int32))]))
  refine own_via (fun _ => XS.iloadN X0.here hx rfl (hb hby d9_3) rfl) ?_
  show own_Go p e below _ (s₁.setTop (mkF m 4 #[.val (.ref a1), .val (.int p2), .val (.int (2 : Int32))] [(.int p2), (.int (5 : Int32))]))
  by_cases hs0 : p2 < (5 : Int32)
  · refine own_via (fun _ => XS.icmpYes X0.here hx rfl (pc0 := 4) (pc' := 39) rfl (hb hby d9_4) rfl (tlt (hs0 : p2 < (5 : Int32))).2.2.1 (by decide) (by decide)) ?_
    show own_Go p e below _ (s₁.setTop (mkF m 39 #[.val (.ref a1), .val (.int p2), .val (.int (2 : Int32))] []))
    refine own_via (fun _ => XS.iconst X0.here hx rfl (hb hby d9_39)) ?_
    show own_Go p e below _ (s₁.setTop (mkF m 40 #[.val (.ref a1), .val (.int p2), .val (.int (2 : Int32))] [(.int (0 : Int32))]))
    exact own_retv X0 Bd.notSynchronized hx Bd.returns rfl (Or.inl ⟨rfl, (by simp), _, rfl⟩) (hb hby d9_40) (by decide) (by decide) (by rw [e0]; exact ⟨(0 : Int32), rfl, N0, rfl, (by simp_all)⟩)
  · refine own_via (fun _ => XS.icmpNo X0.here hx rfl (hb hby d9_4) rfl (flt (hs0 : ¬ (p2 < (5 : Int32)))).2.2.1) ?_
    show own_Go p e below _ (s₁.setTop (mkF m 7 #[.val (.ref a1), .val (.int p2), .val (.int (2 : Int32))] []))
    refine own_via (fun _ => XS.aloadN X0.here hx rfl (hb hby d9_7) rfl rfl) ?_
    show own_Go p e below _ (s₁.setTop (mkF m 8 #[.val (.ref a1), .val (.int p2), .val (.int (2 : Int32))] [(.ref a1)]))
    refine own_via (fun _ => XS.iloadN X0.here hx rfl (hb hby d9_8) rfl) ?_
    show own_Go p e below _ (s₁.setTop (mkF m 9 #[.val (.ref a1), .val (.int p2), .val (.int (2 : Int32))] [(.int (2 : Int32)), (.ref a1)]))
    obtain ⟨cl_1, Ar_1, q_1, S_1, M_1, H_1, G_1⟩ := (id A1)
    have in_1 : ¬ ((2 : Int32) < 0 ∨ cl_1.slots.size ≤ ((2 : Int32)).toNatClampNeg) := inb_of S_1 ⟨by decide, by decide⟩
    refine own_via (X0.caload hx (j := (2 : Int32)) (v := (.int c2)) (by rw [e0]; exact Ar_1.1) (State.isArrayOf_alike hZ.alike Ar_1.2.1) Ar_1.2.2 in_1 (Has.at H_1 in_1 rfl) (g := (mkF m 9 #[.val (.ref a1), .val (.int p2), .val (.int (2 : Int32))] [(.int (2 : Int32)), (.ref a1)])) rfl rfl (hb hby d9_9)) ?_
    show own_Go p e below _ (s₁.setTop (mkF m 10 #[.val (.ref a1), .val (.int p2), .val (.int (2 : Int32))] [(.int c2)]))
    refine own_via (fun _ => XS.bipush X0.here hx rfl (hb hby d9_10)) ?_
    show own_Go p e below _ (s₁.setTop (mkF m 12 #[.val (.ref a1), .val (.int p2), .val (.int (2 : Int32))] [(.int (64 : Int32)), (.int c2)]))
    by_cases h1 : c2 = (64 : Int32)
    · refine own_via (fun _ => XS.icmpNo X0.here hx rfl (hb hby d9_12) rfl (teq (h1 : c2 = (64 : Int32))).2) ?_
      show own_Go p e below _ (s₁.setTop (mkF m 15 #[.val (.ref a1), .val (.int p2), .val (.int (2 : Int32))] []))
      refine own_via (fun _ => XS.aloadN X0.here hx rfl (hb hby d9_15) rfl rfl) ?_
      show own_Go p e below _ (s₁.setTop (mkF m 16 #[.val (.ref a1), .val (.int p2), .val (.int (2 : Int32))] [(.ref a1)]))
      refine own_via (fun _ => XS.iloadN X0.here hx rfl (hb hby d9_16) rfl) ?_
      show own_Go p e below _ (s₁.setTop (mkF m 17 #[.val (.ref a1), .val (.int p2), .val (.int (2 : Int32))] [(.int (2 : Int32)), (.ref a1)]))
      refine own_via (fun _ => XS.iconst X0.here hx rfl (hb hby d9_17)) ?_
      show own_Go p e below _ (s₁.setTop (mkF m 18 #[.val (.ref a1), .val (.int p2), .val (.int (2 : Int32))] [(.int (1 : Int32)), (.int (2 : Int32)), (.ref a1)]))
      refine own_via (fun _ => XS.iadd X0.here hx rfl (hb hby d9_18) rfl) ?_
      show own_Go p e below _ (s₁.setTop (mkF m 19 #[.val (.ref a1), .val (.int p2), .val (.int (2 : Int32))] [(.int (3 : Int32)), (.ref a1)]))
      obtain ⟨cl_2, Ar_2, q_2, S_2, M_2, H_2, G_2⟩ := (id A1)
      have in_2 : ¬ ((3 : Int32) < 0 ∨ cl_2.slots.size ≤ ((3 : Int32)).toNatClampNeg) := inb_of S_2 ⟨by decide, by decide⟩
      refine own_via (X0.caload hx (j := (3 : Int32)) (v := (.int c3)) (by rw [e0]; exact Ar_2.1) (State.isArrayOf_alike hZ.alike Ar_2.2.1) Ar_2.2.2 in_2 (Has.at H_2 in_2 rfl) (g := (mkF m 19 #[.val (.ref a1), .val (.int p2), .val (.int (2 : Int32))] [(.int (3 : Int32)), (.ref a1)])) rfl rfl (hb hby d9_19)) ?_
      show own_Go p e below _ (s₁.setTop (mkF m 20 #[.val (.ref a1), .val (.int p2), .val (.int (2 : Int32))] [(.int c3)]))
      refine own_via (fun _ => XS.bipush X0.here hx rfl (hb hby d9_20)) ?_
      show own_Go p e below _ (s₁.setTop (mkF m 22 #[.val (.ref a1), .val (.int p2), .val (.int (2 : Int32))] [(.int (45 : Int32)), (.int c3)]))
      by_cases h2 : c3 = (45 : Int32)
      · refine own_via (fun _ => XS.icmpNo X0.here hx rfl (hb hby d9_22) rfl (teq (h2 : c3 = (45 : Int32))).2) ?_
        show own_Go p e below _ (s₁.setTop (mkF m 25 #[.val (.ref a1), .val (.int p2), .val (.int (2 : Int32))] []))
        refine own_via (fun _ => XS.aloadN X0.here hx rfl (hb hby d9_25) rfl rfl) ?_
        show own_Go p e below _ (s₁.setTop (mkF m 26 #[.val (.ref a1), .val (.int p2), .val (.int (2 : Int32))] [(.ref a1)]))
        refine own_via (fun _ => XS.iloadN X0.here hx rfl (hb hby d9_26) rfl) ?_
        show own_Go p e below _ (s₁.setTop (mkF m 27 #[.val (.ref a1), .val (.int p2), .val (.int (2 : Int32))] [(.int (2 : Int32)), (.ref a1)]))
        refine own_via (fun _ => XS.iconst X0.here hx rfl (hb hby d9_27)) ?_
        show own_Go p e below _ (s₁.setTop (mkF m 28 #[.val (.ref a1), .val (.int p2), .val (.int (2 : Int32))] [(.int (2 : Int32)), (.int (2 : Int32)), (.ref a1)]))
        refine own_via (fun _ => XS.iadd X0.here hx rfl (hb hby d9_28) rfl) ?_
        show own_Go p e below _ (s₁.setTop (mkF m 29 #[.val (.ref a1), .val (.int p2), .val (.int (2 : Int32))] [(.int (4 : Int32)), (.ref a1)]))
        obtain ⟨cl_3, Ar_3, q_3, S_3, M_3, H_3, G_3⟩ := (id A1)
        have in_3 : ¬ ((4 : Int32) < 0 ∨ cl_3.slots.size ≤ ((4 : Int32)).toNatClampNeg) := inb_of S_3 ⟨by decide, by decide⟩
        refine own_via (X0.caload hx (j := (4 : Int32)) (v := (.int c4)) (by rw [e0]; exact Ar_3.1) (State.isArrayOf_alike hZ.alike Ar_3.2.1) Ar_3.2.2 in_3 (Has.at H_3 in_3 rfl) (g := (mkF m 29 #[.val (.ref a1), .val (.int p2), .val (.int (2 : Int32))] [(.int (4 : Int32)), (.ref a1)])) rfl rfl (hb hby d9_29)) ?_
        show own_Go p e below _ (s₁.setTop (mkF m 30 #[.val (.ref a1), .val (.int p2), .val (.int (2 : Int32))] [(.int c4)]))
        refine own_via (fun _ => XS.bipush X0.here hx rfl (hb hby d9_30)) ?_
        show own_Go p e below _ (s₁.setTop (mkF m 32 #[.val (.ref a1), .val (.int p2), .val (.int (2 : Int32))] [(.int (64 : Int32)), (.int c4)]))
        by_cases h3 : c4 = (64 : Int32)
        · refine own_via (fun _ => XS.icmpNo X0.here hx rfl (hb hby d9_32) rfl (teq (h3 : c4 = (64 : Int32))).2) ?_
          show own_Go p e below _ (s₁.setTop (mkF m 35 #[.val (.ref a1), .val (.int p2), .val (.int (2 : Int32))] []))
          refine own_via (fun _ => XS.iconst X0.here hx rfl (hb hby d9_35)) ?_
          show own_Go p e below _ (s₁.setTop (mkF m 36 #[.val (.ref a1), .val (.int p2), .val (.int (2 : Int32))] [(.int (1 : Int32))]))
          refine own_via (fun _ => XS.goto X0.here hx rfl (pc0 := 36) (pc' := 40) rfl (hb hby d9_36) (by decide) (by decide)) ?_
          show own_Go p e below _ (s₁.setTop (mkF m 40 #[.val (.ref a1), .val (.int p2), .val (.int (2 : Int32))] [(.int (1 : Int32))]))
          exact own_retv X0 Bd.notSynchronized hx Bd.returns rfl (Or.inl ⟨rfl, (by simp), _, rfl⟩) (hb hby d9_40) (by decide) (by decide) (by rw [e0]; exact ⟨(1 : Int32), rfl, N0, rfl, (by simp_all)⟩)
        · refine own_via (fun _ => XS.icmpYes X0.here hx rfl (pc0 := 32) (pc' := 39) rfl (hb hby d9_32) rfl (feq (h3 : ¬ (c4 = (64 : Int32)))).2 (by decide) (by decide)) ?_
          show own_Go p e below _ (s₁.setTop (mkF m 39 #[.val (.ref a1), .val (.int p2), .val (.int (2 : Int32))] []))
          refine own_via (fun _ => XS.iconst X0.here hx rfl (hb hby d9_39)) ?_
          show own_Go p e below _ (s₁.setTop (mkF m 40 #[.val (.ref a1), .val (.int p2), .val (.int (2 : Int32))] [(.int (0 : Int32))]))
          exact own_retv X0 Bd.notSynchronized hx Bd.returns rfl (Or.inl ⟨rfl, (by simp), _, rfl⟩) (hb hby d9_40) (by decide) (by decide) (by rw [e0]; exact ⟨(0 : Int32), rfl, N0, rfl, (by simp_all)⟩)
      · refine own_via (fun _ => XS.icmpYes X0.here hx rfl (pc0 := 22) (pc' := 39) rfl (hb hby d9_22) rfl (feq (h2 : ¬ (c3 = (45 : Int32)))).2 (by decide) (by decide)) ?_
        show own_Go p e below _ (s₁.setTop (mkF m 39 #[.val (.ref a1), .val (.int p2), .val (.int (2 : Int32))] []))
        refine own_via (fun _ => XS.iconst X0.here hx rfl (hb hby d9_39)) ?_
        show own_Go p e below _ (s₁.setTop (mkF m 40 #[.val (.ref a1), .val (.int p2), .val (.int (2 : Int32))] [(.int (0 : Int32))]))
        exact own_retv X0 Bd.notSynchronized hx Bd.returns rfl (Or.inl ⟨rfl, (by simp), _, rfl⟩) (hb hby d9_40) (by decide) (by decide) (by rw [e0]; exact ⟨(0 : Int32), rfl, N0, rfl, (by simp_all)⟩)
    · refine own_via (fun _ => XS.icmpYes X0.here hx rfl (pc0 := 12) (pc' := 39) rfl (hb hby d9_12) rfl (feq (h1 : ¬ (c2 = (64 : Int32)))).2 (by decide) (by decide)) ?_
      show own_Go p e below _ (s₁.setTop (mkF m 39 #[.val (.ref a1), .val (.int p2), .val (.int (2 : Int32))] []))
      refine own_via (fun _ => XS.iconst X0.here hx rfl (hb hby d9_39)) ?_
      show own_Go p e below _ (s₁.setTop (mkF m 40 #[.val (.ref a1), .val (.int p2), .val (.int (2 : Int32))] [(.int (0 : Int32))]))
      exact own_retv X0 Bd.notSynchronized hx Bd.returns rfl (Or.inl ⟨rfl, (by simp), _, rfl⟩) (hb hby d9_40) (by decide) (by decide) (by rw [e0]; exact ⟨(0 : Int32), rfl, N0, rfl, (by simp_all)⟩)
theorem ef_sep3 (m : MethodId) (a1 : Addr) (p2 : Int32) : entryFrame m #[(.ref a1), (.int p2), (.int (3 : Int32))] 3 = mkF m 0 #[.val (.ref a1), .val (.int p2), .val (.int (3 : Int32))] [] := by first | (simp [entryFrame, mkF, argsToLocals, Value.category]; done) | rfl
def Qsep3 (Z : State) (a1 : Addr) (p2 : Int32) (kc : ClassId) (c0 : Int32) (c1 : Int32) (c2 : Int32) (c3 : Int32) (c4 : Int32) (c5 : Int32) (h0 : Heap) (n0 : Nat) (v : Option Value) (h : Heap) (L : List Loc) : Prop := ∃ z : Int32, v = some (.int z) ∧ Fr n0 L ∧ h = h0 ∧ (z = if p2 < 6 then 0 else if c3 = 64 then (if c4 = 45 then (if c5 = 64 then 1 else 0) else 0) else 0)
set_option maxRecDepth 65536 in
set_option maxHeartbeats 40000000 in
theorem rmsep3 (l : Launch) (Z : State) (a0 : Array Value) (hw : ∀ d ∈ tables_1, d.before a0 Z = true) (ws : List Jvm.Cond) (a1 : Addr) (p2 : Int32) (kc : ClassId) (c0 : Int32) (c1 : Int32) (c2 : Int32) (c3 : Int32) (c4 : Int32) (c5 : Int32) (h0 : Heap) (n0 : Nat) (Z0 : n0 ≤ h0.size) (A1 : Arv Z h0 a1 kc .char (6 : Int32) [(.int c0), (.int c1), (.int c2), (.int c3), (.int c4), (.int c5)] (.int (0 : Int32))) :
    MetFree l (⟨"com/example/hollow_crown/hollowcrown/instance/InstanceIdIpOfPinLaw", "sepAt", "([CII)Z"⟩ : MethodName) (head1 (Jvm.Cond.code (⟨"com/example/hollow_crown/hollowcrown/instance/InstanceIdIpOfPinLaw", "sepAt", "([CII)Z"⟩ : MethodName) method_4_code 3 (some .boolean) :: ws) ({ frames := 0, cells := 0, slots := 0, locals := 0 } : Room)) (fun a U => a = #[(.ref a1), (.int p2), (.int (3 : Int32))] ∧ Z.Warmed39 U.vm ∧ U.heap = h0) (fun _ _ _ _ _ => True) (fun _ U o U' => ∃ v L, o = .returned v ∧ Qsep3 Z a1 p2 kc c0 c1 c2 c3 c4 c5 h0 n0 v U'.heap L ∧ FrameEnd U o U' L ({ frames := 0, cells := 0, slots := 0, locals := 0 } : Room).cells ({ frames := 0, cells := 0, slots := 0, locals := 0 } : Room).slots) := by
  refine MetFree.of_bodySF (plainFor_of_name pn_com_example_hollow_crown_hollowcrown_instance_InstanceIdIpOfPinLaw) hisR ?_
  intro p e s m args below meth c s₁ Bd hml0 hP hK
  obtain ⟨rfl, hZ, hH0⟩ := hP
  have hx := Bd.exec
  have hby := Bd.bytes
  have hml : c.maxLocals = 3 := hml0
  have hown : s.vm.findClass "com/example/hollow_crown/hollowcrown/instance/InstanceIdIpOfPinLaw" = some m.cls := findClass_of_methodNamed Bd.named
  have hnm := (name_of_methodNamed Bd.named Bd.method).1
  have X0 : Stand p l e ({ frames := 0, cells := 0, slots := 0, locals := 0 } : Room) s m #[(.ref a1), (.int p2), (.int (3 : Int32))] below meth c s₁ [] 0 0 := Stand.of_body Bd
  have e0 : s₁.heap = h0 := by rw [← hH0, Bd.state]; rfl
  have N0 := Fr.nil n0
  refine own_cast (ef_sep3 m a1 p2) ?_
  show own_Go p e below (fun o U' => ∃ v L, o = .returned v ∧ Qsep3 Z a1 p2 kc c0 c1 c2 c3 c4 c5 h0 n0 v U'.heap L ∧ FrameEnd s o U' L ({ frames := 0, cells := 0, slots := 0, locals := 0 } : Room).cells ({ frames := 0, cells := 0, slots := 0, locals := 0 } : Room).slots) (s₁.setTop (mkF m 0 #[.val (.ref a1), .val (.int p2), .val (.int (3 : Int32))] []))
  refine own_via (fun _ => XS.iloadN X0.here hx rfl (hb hby d9_0) rfl) ?_
  show own_Go p e below _ (s₁.setTop (mkF m 1 #[.val (.ref a1), .val (.int p2), .val (.int (3 : Int32))] [(.int (3 : Int32))]))
  refine own_via (fun _ => XS.iconst X0.here hx rfl (hb hby d9_1)) ?_
  show own_Go p e below _ (s₁.setTop (mkF m 2 #[.val (.ref a1), .val (.int p2), .val (.int (3 : Int32))] [(.int (3 : Int32)), (.int (3 : Int32))]))
  refine own_via (fun _ => XS.iadd X0.here hx rfl (hb hby d9_2) rfl) ?_
  show own_Go p e below _ (s₁.setTop (mkF m 3 #[.val (.ref a1), .val (.int p2), .val (.int (3 : Int32))] [(.int (6 : Int32))]))
  refine own_via (fun _ => XS.iloadN X0.here hx rfl (hb hby d9_3) rfl) ?_
  show own_Go p e below _ (s₁.setTop (mkF m 4 #[.val (.ref a1), .val (.int p2), .val (.int (3 : Int32))] [(.int p2), (.int (6 : Int32))]))
  by_cases hs0 : p2 < (6 : Int32)
  · refine own_via (fun _ => XS.icmpYes X0.here hx rfl (pc0 := 4) (pc' := 39) rfl (hb hby d9_4) rfl (tlt (hs0 : p2 < (6 : Int32))).2.2.1 (by decide) (by decide)) ?_
    show own_Go p e below _ (s₁.setTop (mkF m 39 #[.val (.ref a1), .val (.int p2), .val (.int (3 : Int32))] []))
    refine own_via (fun _ => XS.iconst X0.here hx rfl (hb hby d9_39)) ?_
    show own_Go p e below _ (s₁.setTop (mkF m 40 #[.val (.ref a1), .val (.int p2), .val (.int (3 : Int32))] [(.int (0 : Int32))]))
    exact own_retv X0 Bd.notSynchronized hx Bd.returns rfl (Or.inl ⟨rfl, (by simp), _, rfl⟩) (hb hby d9_40) (by decide) (by decide) (by rw [e0]; exact ⟨(0 : Int32), rfl, N0, rfl, (by simp_all)⟩)
  · refine own_via (fun _ => XS.icmpNo X0.here hx rfl (hb hby d9_4) rfl (flt (hs0 : ¬ (p2 < (6 : Int32)))).2.2.1) ?_
    show own_Go p e below _ (s₁.setTop (mkF m 7 #[.val (.ref a1), .val (.int p2), .val (.int (3 : Int32))] []))
    refine own_via (fun _ => XS.aloadN X0.here hx rfl (hb hby d9_7) rfl rfl) ?_
    show own_Go p e below _ (s₁.setTop (mkF m 8 #[.val (.ref a1), .val (.int p2), .val (.int (3 : Int32))] [(.ref a1)]))
    refine own_via (fun _ => XS.iloadN X0.here hx rfl (hb hby d9_8) rfl) ?_
    show own_Go p e below _ (s₁.setTop (mkF m 9 #[.val (.ref a1), .val (.int p2), .val (.int (3 : Int32))] [(.int (3 : Int32)), (.ref a1)]))
    obtain ⟨cl_1, Ar_1, q_1, S_1, M_1, H_1, G_1⟩ := (id A1)
    have in_1 : ¬ ((3 : Int32) < 0 ∨ cl_1.slots.size ≤ ((3 : Int32)).toNatClampNeg) := inb_of S_1 ⟨by decide, by decide⟩
    refine own_via (X0.caload hx (j := (3 : Int32)) (v := (.int c3)) (by rw [e0]; exact Ar_1.1) (State.isArrayOf_alike hZ.alike Ar_1.2.1) Ar_1.2.2 in_1 (Has.at H_1 in_1 rfl) (g := (mkF m 9 #[.val (.ref a1), .val (.int p2), .val (.int (3 : Int32))] [(.int (3 : Int32)), (.ref a1)])) rfl rfl (hb hby d9_9)) ?_
    show own_Go p e below _ (s₁.setTop (mkF m 10 #[.val (.ref a1), .val (.int p2), .val (.int (3 : Int32))] [(.int c3)]))
    refine own_via (fun _ => XS.bipush X0.here hx rfl (hb hby d9_10)) ?_
    show own_Go p e below _ (s₁.setTop (mkF m 12 #[.val (.ref a1), .val (.int p2), .val (.int (3 : Int32))] [(.int (64 : Int32)), (.int c3)]))
    by_cases h1 : c3 = (64 : Int32)
    · refine own_via (fun _ => XS.icmpNo X0.here hx rfl (hb hby d9_12) rfl (teq (h1 : c3 = (64 : Int32))).2) ?_
      show own_Go p e below _ (s₁.setTop (mkF m 15 #[.val (.ref a1), .val (.int p2), .val (.int (3 : Int32))] []))
      refine own_via (fun _ => XS.aloadN X0.here hx rfl (hb hby d9_15) rfl rfl) ?_
      show own_Go p e below _ (s₁.setTop (mkF m 16 #[.val (.ref a1), .val (.int p2), .val (.int (3 : Int32))] [(.ref a1)]))
      refine own_via (fun _ => XS.iloadN X0.here hx rfl (hb hby d9_16) rfl) ?_
      show own_Go p e below _ (s₁.setTop (mkF m 17 #[.val (.ref a1), .val (.int p2), .val (.int (3 : Int32))] [(.int (3 : Int32)), (.ref a1)]))
      refine own_via (fun _ => XS.iconst X0.here hx rfl (hb hby d9_17)) ?_
      show own_Go p e below _ (s₁.setTop (mkF m 18 #[.val (.ref a1), .val (.int p2), .val (.int (3 : Int32))] [(.int (1 : Int32)), (.int (3 : Int32)), (.ref a1)]))
      refine own_via (fun _ => XS.iadd X0.here hx rfl (hb hby d9_18) rfl) ?_
      show own_Go p e below _ (s₁.setTop (mkF m 19 #[.val (.ref a1), .val (.int p2), .val (.int (3 : Int32))] [(.int (4 : Int32)), (.ref a1)]))
      obtain ⟨cl_2, Ar_2, q_2, S_2, M_2, H_2, G_2⟩ := (id A1)
      have in_2 : ¬ ((4 : Int32) < 0 ∨ cl_2.slots.size ≤ ((4 : Int32)).toNatClampNeg) := inb_of S_2 ⟨by decide, by decide⟩
      refine own_via (X0.caload hx (j := (4 : Int32)) (v := (.int c4)) (by rw [e0]; exact Ar_2.1) (State.isArrayOf_alike hZ.alike Ar_2.2.1) Ar_2.2.2 in_2 (Has.at H_2 in_2 rfl) (g := (mkF m 19 #[.val (.ref a1), .val (.int p2), .val (.int (3 : Int32))] [(.int (4 : Int32)), (.ref a1)])) rfl rfl (hb hby d9_19)) ?_
      show own_Go p e below _ (s₁.setTop (mkF m 20 #[.val (.ref a1), .val (.int p2), .val (.int (3 : Int32))] [(.int c4)]))
      refine own_via (fun _ => XS.bipush X0.here hx rfl (hb hby d9_20)) ?_
      show own_Go p e below _ (s₁.setTop (mkF m 22 #[.val (.ref a1), .val (.int p2), .val (.int (3 : Int32))] [(.int (45 : Int32)), (.int c4)]))
      by_cases h2 : c4 = (45 : Int32)
      · refine own_via (fun _ => XS.icmpNo X0.here hx rfl (hb hby d9_22) rfl (teq (h2 : c4 = (45 : Int32))).2) ?_
        show own_Go p e below _ (s₁.setTop (mkF m 25 #[.val (.ref a1), .val (.int p2), .val (.int (3 : Int32))] []))
        refine own_via (fun _ => XS.aloadN X0.here hx rfl (hb hby d9_25) rfl rfl) ?_
        show own_Go p e below _ (s₁.setTop (mkF m 26 #[.val (.ref a1), .val (.int p2), .val (.int (3 : Int32))] [(.ref a1)]))
        refine own_via (fun _ => XS.iloadN X0.here hx rfl (hb hby d9_26) rfl) ?_
        show own_Go p e below _ (s₁.setTop (mkF m 27 #[.val (.ref a1), .val (.int p2), .val (.int (3 : Int32))] [(.int (3 : Int32)), (.ref a1)]))
        refine own_via (fun _ => XS.iconst X0.here hx rfl (hb hby d9_27)) ?_
        show own_Go p e below _ (s₁.setTop (mkF m 28 #[.val (.ref a1), .val (.int p2), .val (.int (3 : Int32))] [(.int (2 : Int32)), (.int (3 : Int32)), (.ref a1)]))
        refine own_via (fun _ => XS.iadd X0.here hx rfl (hb hby d9_28) rfl) ?_
        show own_Go p e below _ (s₁.setTop (mkF m 29 #[.val (.ref a1), .val (.int p2), .val (.int (3 : Int32))] [(.int (5 : Int32)), (.ref a1)]))
        obtain ⟨cl_3, Ar_3, q_3, S_3, M_3, H_3, G_3⟩ := (id A1)
        have in_3 : ¬ ((5 : Int32) < 0 ∨ cl_3.slots.size ≤ ((5 : Int32)).toNatClampNeg) := inb_of S_3 ⟨by decide, by decide⟩
        refine own_via (X0.caload hx (j := (5 : Int32)) (v := (.int c5)) (by rw [e0]; exact Ar_3.1) (State.isArrayOf_alike hZ.alike Ar_3.2.1) Ar_3.2.2 in_3 (Has.at H_3 in_3 rfl) (g := (mkF m 29 #[.val (.ref a1), .val (.int p2), .val (.int (3 : Int32))] [(.int (5 : Int32)), (.ref a1)])) rfl rfl (hb hby d9_29)) ?_
        show own_Go p e below _ (s₁.setTop (mkF m 30 #[.val (.ref a1), .val (.int p2), .val (.int (3 : Int32))] [(.int c5)]))
        refine own_via (fun _ => XS.bipush X0.here hx rfl (hb hby d9_30)) ?_
        show own_Go p e below _ (s₁.setTop (mkF m 32 #[.val (.ref a1), .val (.int p2), .val (.int (3 : Int32))] [(.int (64 : Int32)), (.int c5)]))
        by_cases h3 : c5 = (64 : Int32)
        · refine own_via (fun _ => XS.icmpNo X0.here hx rfl (hb hby d9_32) rfl (teq (h3 : c5 = (64 : Int32))).2) ?_
          show own_Go p e below _ (s₁.setTop (mkF m 35 #[.val (.ref a1), .val (.int p2), .val (.int (3 : Int32))] []))
          refine own_via (fun _ => XS.iconst X0.here hx rfl (hb hby d9_35)) ?_
          show own_Go p e below _ (s₁.setTop (mkF m 36 #[.val (.ref a1), .val (.int p2), .val (.int (3 : Int32))] [(.int (1 : Int32))]))
          refine own_via (fun _ => XS.goto X0.here hx rfl (pc0 := 36) (pc' := 40) rfl (hb hby d9_36) (by decide) (by decide)) ?_
          show own_Go p e below _ (s₁.setTop (mkF m 40 #[.val (.ref a1), .val (.int p2), .val (.int (3 : Int32))] [(.int (1 : Int32))]))
          exact own_retv X0 Bd.notSynchronized hx Bd.returns rfl (Or.inl ⟨rfl, (by simp), _, rfl⟩) (hb hby d9_40) (by decide) (by decide) (by rw [e0]; exact ⟨(1 : Int32), rfl, N0, rfl, (by simp_all)⟩)
        · refine own_via (fun _ => XS.icmpYes X0.here hx rfl (pc0 := 32) (pc' := 39) rfl (hb hby d9_32) rfl (feq (h3 : ¬ (c5 = (64 : Int32)))).2 (by decide) (by decide)) ?_
          show own_Go p e below _ (s₁.setTop (mkF m 39 #[.val (.ref a1), .val (.int p2), .val (.int (3 : Int32))] []))
          refine own_via (fun _ => XS.iconst X0.here hx rfl (hb hby d9_39)) ?_
          show own_Go p e below _ (s₁.setTop (mkF m 40 #[.val (.ref a1), .val (.int p2), .val (.int (3 : Int32))] [(.int (0 : Int32))]))
          exact own_retv X0 Bd.notSynchronized hx Bd.returns rfl (Or.inl ⟨rfl, (by simp), _, rfl⟩) (hb hby d9_40) (by decide) (by decide) (by rw [e0]; exact ⟨(0 : Int32), rfl, N0, rfl, (by simp_all)⟩)
      · refine own_via (fun _ => XS.icmpYes X0.here hx rfl (pc0 := 22) (pc' := 39) rfl (hb hby d9_22) rfl (feq (h2 : ¬ (c4 = (45 : Int32)))).2 (by decide) (by decide)) ?_
        show own_Go p e below _ (s₁.setTop (mkF m 39 #[.val (.ref a1), .val (.int p2), .val (.int (3 : Int32))] []))
        refine own_via (fun _ => XS.iconst X0.here hx rfl (hb hby d9_39)) ?_
        show own_Go p e below _ (s₁.setTop (mkF m 40 #[.val (.ref a1), .val (.int p2), .val (.int (3 : Int32))] [(.int (0 : Int32))]))
        exact own_retv X0 Bd.notSynchronized hx Bd.returns rfl (Or.inl ⟨rfl, (by simp), _, rfl⟩) (hb hby d9_40) (by decide) (by decide) (by rw [e0]; exact ⟨(0 : Int32), rfl, N0, rfl, (by simp_all)⟩)
    · refine own_via (fun _ => XS.icmpYes X0.here hx rfl (pc0 := 12) (pc' := 39) rfl (hb hby d9_12) rfl (feq (h1 : ¬ (c3 = (64 : Int32)))).2 (by decide) (by decide)) ?_
      show own_Go p e below _ (s₁.setTop (mkF m 39 #[.val (.ref a1), .val (.int p2), .val (.int (3 : Int32))] []))
      refine own_via (fun _ => XS.iconst X0.here hx rfl (hb hby d9_39)) ?_
      show own_Go p e below _ (s₁.setTop (mkF m 40 #[.val (.ref a1), .val (.int p2), .val (.int (3 : Int32))] [(.int (0 : Int32))]))
      exact own_retv X0 Bd.notSynchronized hx Bd.returns rfl (Or.inl ⟨rfl, (by simp), _, rfl⟩) (hb hby d9_40) (by decide) (by decide) (by rw [e0]; exact ⟨(0 : Int32), rfl, N0, rfl, (by simp_all)⟩)
theorem d12_0 : decode jdk_42_method_152_code 0 = .ok (.getstatic 38, 3) := by decide +kernel
theorem d12_3 : decode jdk_42_method_152_code 3 = .ok (.ifCond .eq 10, 3) := by decide +kernel
theorem d12_6 : decode jdk_42_method_152_code 6 = .ok (.aload_n 0, 1) := by decide +kernel
theorem d12_7 : decode jdk_42_method_152_code 7 = .ok (.getfield 15, 3) := by decide +kernel
theorem d12_10 : decode jdk_42_method_152_code 10 = .ok (.goto 4, 3) := by decide +kernel
theorem d12_13 : decode jdk_42_method_152_code 13 = .ok (.iconst 1, 1) := by decide +kernel
theorem d12_14 : decode jdk_42_method_152_code 14 = .ok (.ireturn, 1) := by decide +kernel
theorem ef_coder (m : MethodId) (a1 : Addr) : entryFrame m #[(.ref a1)] 1 = mkF m 0 #[.val (.ref a1)] [] := by first | (simp [entryFrame, mkF, argsToLocals, Value.category]; done) | rfl
def Qcoder (Z : State) (a1 : Addr) (cs : Int32) (h0 : Heap) (n0 : Nat) (v : Option Value) (h : Heap) (L : List Loc) : Prop := v = some (.int (0 : Int32)) ∧ Fr n0 L ∧ h = h0
set_option maxRecDepth 65536 in
set_option maxHeartbeats 40000000 in
theorem rmcoder (l : Launch) (Z : State) (a0 : Array Value) (hw : ∀ d ∈ tables_1, d.before a0 Z = true) (ws : List Jvm.Cond) (a1 : Addr) (cs : Int32) (h0 : Heap) (n0 : Nat) (Z0 : n0 ≤ h0.size) (O0 : Old Z n0 h0) (Scs : Sta Z Z.heap "java/lang/String" "COMPACT_STRINGS" "Z" (.int cs)) (hcs : ¬ (cs = (0 : Int32))) (F1 : Fld Z h0 a1 "java/lang/String" "coder" "B" (.int (0 : Int32))) :
    MetFree l (⟨"java/lang/String", "coder", "()B"⟩ : MethodName) (head1 (Jvm.Cond.code (⟨"java/lang/String", "coder", "()B"⟩ : MethodName) jdk_42_method_152_code 1 (some .byte) :: ws) ({ frames := 0, cells := 0, slots := 0, locals := 0 } : Room)) (fun a U => a = #[(.ref a1)] ∧ Z.Warmed39 U.vm ∧ U.heap = h0) (fun _ _ _ _ _ => True) (fun _ U o U' => ∃ v L, o = .returned v ∧ Qcoder Z a1 cs h0 n0 v U'.heap L ∧ FrameEnd U o U' L ({ frames := 0, cells := 0, slots := 0, locals := 0 } : Room).cells ({ frames := 0, cells := 0, slots := 0, locals := 0 } : Room).slots) := by
  refine MetFree.of_bodySF (plainFor_of_name pn_java_lang_String) hisR ?_
  intro p e s m args below meth c s₁ Bd hml0 hP hK
  obtain ⟨rfl, hZ, hH0⟩ := hP
  have hx := Bd.exec
  have hby := Bd.bytes
  have hml : c.maxLocals = 1 := hml0
  have hown : s.vm.findClass "java/lang/String" = some m.cls := findClass_of_methodNamed Bd.named
  have hnm := (name_of_methodNamed Bd.named Bd.method).1
  have X0 : Stand p l e ({ frames := 0, cells := 0, slots := 0, locals := 0 } : Room) s m #[(.ref a1)] below meth c s₁ [] 0 0 := Stand.of_body Bd
  have e0 : s₁.heap = h0 := by rw [← hH0, Bd.state]; rfl
  have N0 := Fr.nil n0
  refine own_cast (ef_coder m a1) ?_
  show own_Go p e below (fun o U' => ∃ v L, o = .returned v ∧ Qcoder Z a1 cs h0 n0 v U'.heap L ∧ FrameEnd s o U' L ({ frames := 0, cells := 0, slots := 0, locals := 0 } : Room).cells ({ frames := 0, cells := 0, slots := 0, locals := 0 } : Room).slots) (s₁.setTop (mkF m 0 #[.val (.ref a1)] []))
  obtain ⟨T_1, X_1, e_1, st_1⟩ := getS2 X0 hx hZ hown (host := "") (Or.inl (own_w hw 21 rfl)) Via.refl e0 (Scs.ext O0.2) (g := (mkF m 0 #[.val (.ref a1)] [])) rfl (hb hby d12_0)
  refine own_via st_1 ?_
  show own_Go p e below _ (T_1.setTop (mkF m 3 #[.val (.ref a1)] [(.int cs)]))
  refine own_via (fun _ => XS.ifNo X_1.here hx rfl (hb hby d12_3) rfl ((if0 _ _).trans (feq (hcs : ¬ (cs = (0 : Int32)))).1)) ?_
  show own_Go p e below _ (T_1.setTop (mkF m 6 #[.val (.ref a1)] []))
  refine own_via (fun _ => XS.aloadN X_1.here hx rfl (hb hby d12_6) rfl rfl) ?_
  show own_Go p e below _ (T_1.setTop (mkF m 7 #[.val (.ref a1)] [(.ref a1)]))
  obtain ⟨T_2, X_2, e_2, st_2⟩ := getF X_1 hx hZ hown (host := "") (Or.inl (own_w hw 33 rfl)) Via.refl e_1 F1 (g := (mkF m 7 #[.val (.ref a1)] [(.ref a1)])) rfl rfl (hb hby d12_7)
  refine own_via st_2 ?_
  show own_Go p e below _ (T_2.setTop (mkF m 10 #[.val (.ref a1)] [(.int (0 : Int32))]))
  refine own_via (fun _ => XS.goto X_2.here hx rfl (pc0 := 10) (pc' := 14) rfl (hb hby d12_10) (by decide) (by decide)) ?_
  show own_Go p e below _ (T_2.setTop (mkF m 14 #[.val (.ref a1)] [(.int (0 : Int32))]))
  exact own_retv X_2 Bd.notSynchronized hx Bd.returns rfl (Or.inl ⟨rfl, (by simp), _, rfl⟩) (hb hby d12_14) (by decide) (by decide) (by rw [e_2]; exact ⟨rfl, N0, rfl⟩)
theorem d13_0 : decode jdk_42_method_154_code 0 = .ok (.getstatic 38, 3) := by decide +kernel
theorem d13_3 : decode jdk_42_method_154_code 3 = .ok (.ifCond .eq 14, 3) := by decide +kernel
theorem d13_6 : decode jdk_42_method_154_code 6 = .ok (.aload_n 0, 1) := by decide +kernel
theorem d13_7 : decode jdk_42_method_154_code 7 = .ok (.getfield 15, 3) := by decide +kernel
theorem d13_10 : decode jdk_42_method_154_code 10 = .ok (.ifCond .ne 7, 3) := by decide +kernel
theorem d13_13 : decode jdk_42_method_154_code 13 = .ok (.iconst 1, 1) := by decide +kernel
theorem d13_14 : decode jdk_42_method_154_code 14 = .ok (.goto 4, 3) := by decide +kernel
theorem d13_17 : decode jdk_42_method_154_code 17 = .ok (.iconst 0, 1) := by decide +kernel
theorem d13_18 : decode jdk_42_method_154_code 18 = .ok (.ireturn, 1) := by decide +kernel
theorem ef_isLatin1 (m : MethodId) (a1 : Addr) : entryFrame m #[(.ref a1)] 1 = mkF m 0 #[.val (.ref a1)] [] := by first | (simp [entryFrame, mkF, argsToLocals, Value.category]; done) | rfl
def QisLatin1 (Z : State) (a1 : Addr) (cs : Int32) (h0 : Heap) (n0 : Nat) (v : Option Value) (h : Heap) (L : List Loc) : Prop := v = some (.int (1 : Int32)) ∧ Fr n0 L ∧ h = h0
set_option maxRecDepth 65536 in
set_option maxHeartbeats 40000000 in
theorem rmisLatin1 (l : Launch) (Z : State) (a0 : Array Value) (hw : ∀ d ∈ tables_1, d.before a0 Z = true) (ws : List Jvm.Cond) (a1 : Addr) (cs : Int32) (h0 : Heap) (n0 : Nat) (Z0 : n0 ≤ h0.size) (O0 : Old Z n0 h0) (Scs : Sta Z Z.heap "java/lang/String" "COMPACT_STRINGS" "Z" (.int cs)) (hcs : ¬ (cs = (0 : Int32))) (F1 : Fld Z h0 a1 "java/lang/String" "coder" "B" (.int (0 : Int32))) :
    MetFree l (⟨"java/lang/String", "isLatin1", "()Z"⟩ : MethodName) (head1 (Jvm.Cond.code (⟨"java/lang/String", "isLatin1", "()Z"⟩ : MethodName) jdk_42_method_154_code 1 (some .boolean) :: ws) ({ frames := 0, cells := 0, slots := 0, locals := 0 } : Room)) (fun a U => a = #[(.ref a1)] ∧ Z.Warmed39 U.vm ∧ U.heap = h0) (fun _ _ _ _ _ => True) (fun _ U o U' => ∃ v L, o = .returned v ∧ QisLatin1 Z a1 cs h0 n0 v U'.heap L ∧ FrameEnd U o U' L ({ frames := 0, cells := 0, slots := 0, locals := 0 } : Room).cells ({ frames := 0, cells := 0, slots := 0, locals := 0 } : Room).slots) := by
  refine MetFree.of_bodySF (plainFor_of_name pn_java_lang_String) hisR ?_
  intro p e s m args below meth c s₁ Bd hml0 hP hK
  obtain ⟨rfl, hZ, hH0⟩ := hP
  have hx := Bd.exec
  have hby := Bd.bytes
  have hml : c.maxLocals = 1 := hml0
  have hown : s.vm.findClass "java/lang/String" = some m.cls := findClass_of_methodNamed Bd.named
  have hnm := (name_of_methodNamed Bd.named Bd.method).1
  have X0 : Stand p l e ({ frames := 0, cells := 0, slots := 0, locals := 0 } : Room) s m #[(.ref a1)] below meth c s₁ [] 0 0 := Stand.of_body Bd
  have e0 : s₁.heap = h0 := by rw [← hH0, Bd.state]; rfl
  have N0 := Fr.nil n0
  refine own_cast (ef_isLatin1 m a1) ?_
  show own_Go p e below (fun o U' => ∃ v L, o = .returned v ∧ QisLatin1 Z a1 cs h0 n0 v U'.heap L ∧ FrameEnd s o U' L ({ frames := 0, cells := 0, slots := 0, locals := 0 } : Room).cells ({ frames := 0, cells := 0, slots := 0, locals := 0 } : Room).slots) (s₁.setTop (mkF m 0 #[.val (.ref a1)] []))
  obtain ⟨T_1, X_1, e_1, st_1⟩ := getS2 X0 hx hZ hown (host := "") (Or.inl (own_w hw 21 rfl)) Via.refl e0 (Scs.ext O0.2) (g := (mkF m 0 #[.val (.ref a1)] [])) rfl (hb hby d13_0)
  refine own_via st_1 ?_
  show own_Go p e below _ (T_1.setTop (mkF m 3 #[.val (.ref a1)] [(.int cs)]))
  refine own_via (fun _ => XS.ifNo X_1.here hx rfl (hb hby d13_3) rfl ((if0 _ _).trans (feq (hcs : ¬ (cs = (0 : Int32)))).1)) ?_
  show own_Go p e below _ (T_1.setTop (mkF m 6 #[.val (.ref a1)] []))
  refine own_via (fun _ => XS.aloadN X_1.here hx rfl (hb hby d13_6) rfl rfl) ?_
  show own_Go p e below _ (T_1.setTop (mkF m 7 #[.val (.ref a1)] [(.ref a1)]))
  obtain ⟨T_2, X_2, e_2, st_2⟩ := getF X_1 hx hZ hown (host := "") (Or.inl (own_w hw 33 rfl)) Via.refl e_1 F1 (g := (mkF m 7 #[.val (.ref a1)] [(.ref a1)])) rfl rfl (hb hby d13_7)
  refine own_via st_2 ?_
  show own_Go p e below _ (T_2.setTop (mkF m 10 #[.val (.ref a1)] [(.int (0 : Int32))]))
  refine own_via (fun _ => XS.ifNo X_2.here hx rfl (hb hby d13_10) rfl ((if0 _ _).trans (teq ((by decide) : (0 : Int32) = (0 : Int32))).2)) ?_
  show own_Go p e below _ (T_2.setTop (mkF m 13 #[.val (.ref a1)] []))
  refine own_via (fun _ => XS.iconst X_2.here hx rfl (hb hby d13_13)) ?_
  show own_Go p e below _ (T_2.setTop (mkF m 14 #[.val (.ref a1)] [(.int (1 : Int32))]))
  refine own_via (fun _ => XS.goto X_2.here hx rfl (pc0 := 14) (pc' := 18) rfl (hb hby d13_14) (by decide) (by decide)) ?_
  show own_Go p e below _ (T_2.setTop (mkF m 18 #[.val (.ref a1)] [(.int (1 : Int32))]))
  exact own_retv X_2 Bd.notSynchronized hx Bd.returns rfl (Or.inl ⟨rfl, (by simp), _, rfl⟩) (hb hby d13_18) (by decide) (by decide) (by rw [e_2]; exact ⟨rfl, N0, rfl⟩)
theorem own_shr0 (x : Int32) : x >>> ((0 : Int32) &&& 31) = x := by
  show x >>> (0 : Int32) = x
  simp
theorem d19_0 : decode jdk_42_method_54_code 0 = .ok (.aload_n 0, 1) := by decide +kernel
theorem d19_1 : decode jdk_42_method_54_code 1 = .ok (.getfield 9, 3) := by decide +kernel
theorem d19_4 : decode jdk_42_method_54_code 4 = .ok (.arraylength, 1) := by decide +kernel
theorem d19_5 : decode jdk_42_method_54_code 5 = .ok (.aload_n 0, 1) := by decide +kernel
theorem d19_6 : decode jdk_42_method_54_code 6 = .ok (.invokevirtual 335, 3) := by decide +kernel
theorem d19_9 : decode jdk_42_method_54_code 9 = .ok (.ishr, 1) := by decide +kernel
theorem d19_10 : decode jdk_42_method_54_code 10 = .ok (.ireturn, 1) := by decide +kernel
theorem pd_5 : parseMethodDescriptor "()B" = some ⟨[], some .byte⟩ := by decide +kernel
theorem ef_length (m : MethodId) (a1 : Addr) : entryFrame m #[(.ref a1)] 1 = mkF m 0 #[.val (.ref a1)] [] := by first | (simp [entryFrame, mkF, argsToLocals, Value.category]; done) | rfl
def Qlength (Z : State) (a1 : Addr) (t1 : Addr) (k1 : ClassId) (N : Int32) (vs : List Value) (cs : Int32) (h0 : Heap) (n0 : Nat) (v : Option Value) (h : Heap) (L : List Loc) : Prop := v = some (.int N) ∧ Fr n0 L ∧ h = h0
set_option maxRecDepth 65536 in
set_option maxHeartbeats 40000000 in
theorem rmlength (l : Launch) (Z : State) (a0 : Array Value) (hw : ∀ d ∈ tables_1, d.before a0 Z = true) (ws : List Jvm.Cond) (a1 : Addr) (t1 : Addr) (k1 : ClassId) (N : Int32) (vs : List Value) (cs : Int32) (h0 : Heap) (n0 : Nat) (Z0 : n0 ≤ h0.size) (O0 : Old Z n0 h0) (Scs : Sta Z Z.heap "java/lang/String" "COMPACT_STRINGS" "Z" (.int cs)) (hcs : ¬ (cs = (0 : Int32))) (E1 : Exa Z h0 a1 "java/lang/String") (F1 : Fld Z h0 a1 "java/lang/String" "coder" "B" (.int (0 : Int32))) (F2 : Fld Z h0 a1 "java/lang/String" "value" "[B" (.ref t1)) (A1 : Arv Z h0 t1 k1 .byte N vs (.int (0 : Int32))) :
    MetFree l (⟨"java/lang/String", "length", "()I"⟩ : MethodName) (head1 (Jvm.Cond.code (⟨"java/lang/String", "length", "()I"⟩ : MethodName) jdk_42_method_54_code 1 (some .int) :: ws) ({ frames := 1, cells := 0, slots := 0, locals := 13 } : Room)) (fun a U => a = #[(.ref a1)] ∧ Z.Warmed39 U.vm ∧ U.heap = h0) (fun _ _ _ _ _ => True) (fun _ U o U' => ∃ v L, o = .returned v ∧ Qlength Z a1 t1 k1 N vs cs h0 n0 v U'.heap L ∧ FrameEnd U o U' L ({ frames := 1, cells := 0, slots := 0, locals := 13 } : Room).cells ({ frames := 1, cells := 0, slots := 0, locals := 13 } : Room).slots) := by
  refine MetFree.of_bodySF (plainFor_of_name pn_java_lang_String) hisR ?_
  intro p e s m args below meth c s₁ Bd hml0 hP hK
  obtain ⟨rfl, hZ, hH0⟩ := hP
  have hx := Bd.exec
  have hby := Bd.bytes
  have hml : c.maxLocals = 1 := hml0
  have hown : s.vm.findClass "java/lang/String" = some m.cls := findClass_of_methodNamed Bd.named
  have hnm := (name_of_methodNamed Bd.named Bd.method).1
  have X0 : Stand p l e ({ frames := 1, cells := 0, slots := 0, locals := 13 } : Room) s m #[(.ref a1)] below meth c s₁ [] 0 0 := Stand.of_body Bd
  have e0 : s₁.heap = h0 := by rw [← hH0, Bd.state]; rfl
  have N0 := Fr.nil n0
  refine own_cast (ef_length m a1) ?_
  show own_Go p e below (fun o U' => ∃ v L, o = .returned v ∧ Qlength Z a1 t1 k1 N vs cs h0 n0 v U'.heap L ∧ FrameEnd s o U' L ({ frames := 1, cells := 0, slots := 0, locals := 13 } : Room).cells ({ frames := 1, cells := 0, slots := 0, locals := 13 } : Room).slots) (s₁.setTop (mkF m 0 #[.val (.ref a1)] []))
  refine own_via (fun _ => XS.aloadN X0.here hx rfl (hb hby d19_0) rfl rfl) ?_
  show own_Go p e below _ (s₁.setTop (mkF m 1 #[.val (.ref a1)] [(.ref a1)]))
  obtain ⟨T_1, X_1, e_1, st_1⟩ := getF X0 hx hZ hown (host := "") (Or.inl (own_w hw 35 rfl)) Via.refl e0 F2 (g := (mkF m 1 #[.val (.ref a1)] [(.ref a1)])) rfl rfl (hb hby d19_1)
  refine own_via st_1 ?_
  show own_Go p e below _ (T_1.setTop (mkF m 4 #[.val (.ref a1)] [(.ref t1)]))
  obtain ⟨cl_2, Ar_2, q_2, S_2, M_2, H_2, G_2⟩ := (id A1)
  refine own_via (X_1.arraylength hx (by rw [e_1]; exact Ar_2.1) (State.isArrayOf_alike hZ.alike Ar_2.2.1) (g := (mkF m 4 #[.val (.ref a1)] [(.ref t1)])) rfl rfl (hb hby d19_4)) ?_
  rw [len_of S_2 M_2]
  show own_Go p e below _ (T_1.setTop (mkF m 5 #[.val (.ref a1)] [(.int N)]))
  refine own_via (fun _ => XS.aloadN X_1.here hx rfl (hb hby d19_5) rfl rfl) ?_
  show own_Go p e below _ (T_1.setTop (mkF m 6 #[.val (.ref a1)] [(.ref a1), (.int N)]))
  obtain ⟨cq_3, kq_3, q_3a, q_3b, q_3c⟩ := isOf hZ e_1 E1
  obtain ⟨_, _, ⟨T_3, L_3, k_3, n_3⟩, -, X_3, ⟨Lc_3, hQ_3, l_3, y_3, z_3⟩, st_3⟩ := X_1.virtualBack hx (y := (⟨"java/lang/String", "coder", "()B"⟩ : MethodName)) (z := (⟨"java/lang/String", "coder", "()B"⟩ : MethodName)) hown (mvT hZ (own_w hw 52 rfl)) (mvT hZ (own_w hw 53 rfl)) (notFace_of_selects (args := #[]) (mvT hZ (own_w hw 55 rfl))) (mvT hZ (own_w hw 55 rfl)) (mvT hZ (own_w hw 54 rfl)) (by decide) (backOf (W := 1) (rmcoder l Z a0 hw [] a1 cs h0 n0 Z0 O0 Scs hcs F1) hZ (own_w hw 56 rfl) (own_w hw 10 rfl) (by decide) (by decide)) q_3a q_3c (g := (mkF m 6 #[.val (.ref a1)] [(.ref a1), (.int N)])) rfl (by rw [hml]; rfl) (Steps.refl _) (argsL := []) (rest := [(.int N)]) (lenOf pd_5 rfl) rfl (by show 2 * 0 + _ ≤ _; exact Nat.le_of_eq rfl) (hb hby d19_6) (fun _ _ => ⟨rfl, e_1, (by decide : 0 + 0 ≤ _), (by decide : 0 + 0 ≤ _)⟩)
  dsimp only [Pt.U, Pt.locs, Pt.cells, Pt.slots] at X_3 l_3 y_3 z_3 st_3 hQ_3
  subst l_3 y_3 z_3
  obtain ⟨rfl, Nq_3, e_3⟩ := hQ_3
  have N_3 := Fr.app N0 Nq_3
  refine own_via (fun _ k => st_3.trans k) ?_
  show own_Go p e below _ (T_3.setTop (mkF m 9 #[.val (.ref a1)] [(.int (0 : Int32)), (.int N)]))
  refine own_via (fun _ => XS.ishr X_3.here hx rfl (hb hby d19_9) rfl) ?_
  show own_Go p e below _ (T_3.setTop (mkF m 10 #[.val (.ref a1)] [(.int (N >>> ((0 : Int32) &&& 31)))]))
  rw [own_shr0]
  show own_Go p e below _ (T_3.setTop (mkF m 10 #[.val (.ref a1)] [(.int N)]))
  exact own_retv X_3 Bd.notSynchronized hx Bd.returns rfl (Or.inl ⟨rfl, (by simp), _, rfl⟩) (hb hby d19_10) (by decide) (by decide) (by rw [e_3]; exact ⟨rfl, N_3, rfl⟩)
theorem own_neg {bs : List Int32} {N : Int32} (hN : N = Int32.ofNat bs.length) (h : bs.length < 3) : N - (3 : Int32) < (0 : Int32) := by
  subst hN
  rcases (by omega : bs.length = 0 ∨ bs.length = 1 ∨ bs.length = 2) with e | e | e <;> rw [e] <;> decide

theorem d15_0 : decode jdk_43_method_25_code 0 = .ok (.aload_n 2, 1) := by decide +kernel
theorem d15_1 : decode jdk_43_method_25_code 1 = .ok (.iconst 0, 1) := by decide +kernel
theorem d15_2 : decode jdk_43_method_25_code 2 = .ok (.baload, 1) := by decide +kernel
theorem d15_3 : decode jdk_43_method_25_code 3 = .ok (.istore 5, 2) := by decide +kernel
theorem d15_5 : decode jdk_43_method_25_code 5 = .ok (.iload_n 1, 1) := by decide +kernel
theorem d15_6 : decode jdk_43_method_25_code 6 = .ok (.iload_n 3, 1) := by decide +kernel
theorem d15_7 : decode jdk_43_method_25_code 7 = .ok (.isub, 1) := by decide +kernel
theorem d15_8 : decode jdk_43_method_25_code 8 = .ok (.istore 6, 2) := by decide +kernel
theorem d15_10 : decode jdk_43_method_25_code 10 = .ok (.iload 4, 2) := by decide +kernel
theorem d15_12 : decode jdk_43_method_25_code 12 = .ok (.istore 7, 2) := by decide +kernel
theorem d15_14 : decode jdk_43_method_25_code 14 = .ok (.iload 7, 2) := by decide +kernel
theorem d15_16 : decode jdk_43_method_25_code 16 = .ok (.iload 6, 2) := by decide +kernel
theorem d15_18 : decode jdk_43_method_25_code 18 = .ok (.if_icmp .gt 101, 3) := by decide +kernel
theorem d15_21 : decode jdk_43_method_25_code 21 = .ok (.aload_n 0, 1) := by decide +kernel
theorem d15_22 : decode jdk_43_method_25_code 22 = .ok (.iload 7, 2) := by decide +kernel
theorem d15_24 : decode jdk_43_method_25_code 24 = .ok (.baload, 1) := by decide +kernel
theorem d15_25 : decode jdk_43_method_25_code 25 = .ok (.iload 5, 2) := by decide +kernel
theorem d15_27 : decode jdk_43_method_25_code 27 = .ok (.if_icmp .eq 25, 3) := by decide +kernel
theorem d15_30 : decode jdk_43_method_25_code 30 = .ok (.iinc 7 1, 3) := by decide +kernel
theorem d15_33 : decode jdk_43_method_25_code 33 = .ok (.iload 7, 2) := by decide +kernel
theorem d15_35 : decode jdk_43_method_25_code 35 = .ok (.iload 6, 2) := by decide +kernel
theorem d15_37 : decode jdk_43_method_25_code 37 = .ok (.if_icmp .gt 15, 3) := by decide +kernel
theorem d15_40 : decode jdk_43_method_25_code 40 = .ok (.aload_n 0, 1) := by decide +kernel
theorem d15_41 : decode jdk_43_method_25_code 41 = .ok (.iload 7, 2) := by decide +kernel
theorem d15_43 : decode jdk_43_method_25_code 43 = .ok (.baload, 1) := by decide +kernel
theorem d15_44 : decode jdk_43_method_25_code 44 = .ok (.iload 5, 2) := by decide +kernel
theorem d15_46 : decode jdk_43_method_25_code 46 = .ok (.if_icmp .eq 6, 3) := by decide +kernel
theorem d15_49 : decode jdk_43_method_25_code 49 = .ok (.goto (-19), 3) := by decide +kernel
theorem d15_52 : decode jdk_43_method_25_code 52 = .ok (.iload 7, 2) := by decide +kernel
theorem d15_54 : decode jdk_43_method_25_code 54 = .ok (.iload 6, 2) := by decide +kernel
theorem d15_56 : decode jdk_43_method_25_code 56 = .ok (.if_icmp .gt 57, 3) := by decide +kernel
theorem d15_59 : decode jdk_43_method_25_code 59 = .ok (.iload 7, 2) := by decide +kernel
theorem d15_61 : decode jdk_43_method_25_code 61 = .ok (.iconst 1, 1) := by decide +kernel
theorem d15_62 : decode jdk_43_method_25_code 62 = .ok (.iadd, 1) := by decide +kernel
theorem d15_63 : decode jdk_43_method_25_code 63 = .ok (.istore 8, 2) := by decide +kernel
theorem d15_65 : decode jdk_43_method_25_code 65 = .ok (.iload 8, 2) := by decide +kernel
theorem d15_67 : decode jdk_43_method_25_code 67 = .ok (.iload_n 3, 1) := by decide +kernel
theorem d15_68 : decode jdk_43_method_25_code 68 = .ok (.iadd, 1) := by decide +kernel
theorem d15_69 : decode jdk_43_method_25_code 69 = .ok (.iconst 1, 1) := by decide +kernel
theorem d15_70 : decode jdk_43_method_25_code 70 = .ok (.isub, 1) := by decide +kernel
theorem d15_71 : decode jdk_43_method_25_code 71 = .ok (.istore 9, 2) := by decide +kernel
theorem d15_73 : decode jdk_43_method_25_code 73 = .ok (.iconst 1, 1) := by decide +kernel
theorem d15_74 : decode jdk_43_method_25_code 74 = .ok (.istore 10, 2) := by decide +kernel
theorem d15_76 : decode jdk_43_method_25_code 76 = .ok (.iload 8, 2) := by decide +kernel
theorem d15_78 : decode jdk_43_method_25_code 78 = .ok (.iload 9, 2) := by decide +kernel
theorem d15_80 : decode jdk_43_method_25_code 80 = .ok (.if_icmp .ge 23, 3) := by decide +kernel
theorem d15_83 : decode jdk_43_method_25_code 83 = .ok (.aload_n 0, 1) := by decide +kernel
theorem d15_84 : decode jdk_43_method_25_code 84 = .ok (.iload 8, 2) := by decide +kernel
theorem d15_86 : decode jdk_43_method_25_code 86 = .ok (.baload, 1) := by decide +kernel
theorem d15_87 : decode jdk_43_method_25_code 87 = .ok (.aload_n 2, 1) := by decide +kernel
theorem d15_88 : decode jdk_43_method_25_code 88 = .ok (.iload 10, 2) := by decide +kernel
theorem d15_90 : decode jdk_43_method_25_code 90 = .ok (.baload, 1) := by decide +kernel
theorem d15_91 : decode jdk_43_method_25_code 91 = .ok (.if_icmp .ne 12, 3) := by decide +kernel
theorem d15_94 : decode jdk_43_method_25_code 94 = .ok (.iinc 8 1, 3) := by decide +kernel
theorem d15_97 : decode jdk_43_method_25_code 97 = .ok (.iinc 10 1, 3) := by decide +kernel
theorem d15_100 : decode jdk_43_method_25_code 100 = .ok (.goto (-24), 3) := by decide +kernel
theorem d15_103 : decode jdk_43_method_25_code 103 = .ok (.iload 8, 2) := by decide +kernel
theorem d15_105 : decode jdk_43_method_25_code 105 = .ok (.iload 9, 2) := by decide +kernel
theorem d15_107 : decode jdk_43_method_25_code 107 = .ok (.if_icmp .ne 6, 3) := by decide +kernel
theorem d15_110 : decode jdk_43_method_25_code 110 = .ok (.iload 7, 2) := by decide +kernel
theorem d15_112 : decode jdk_43_method_25_code 112 = .ok (.ireturn, 1) := by decide +kernel
theorem d15_113 : decode jdk_43_method_25_code 113 = .ok (.iinc 7 1, 3) := by decide +kernel
theorem d15_116 : decode jdk_43_method_25_code 116 = .ok (.goto (-102), 3) := by decide +kernel
theorem d15_119 : decode jdk_43_method_25_code 119 = .ok (.iconst (-1), 1) := by decide +kernel
theorem d15_120 : decode jdk_43_method_25_code 120 = .ok (.ireturn, 1) := by decide +kernel
theorem pn_java_lang_StringLatin1 : plainName "java/lang/StringLatin1" = true := by first | (simp [plainName, overriddenIn]; done) | decide +kernel
theorem ef_ix5 (m : MethodId) (a1 : Addr) (N : Int32) (a2 : Addr) : entryFrame m #[(.ref a1), (.int N), (.ref a2), (.int (3 : Int32)), (.int (0 : Int32))] 11 = mkF m 0 #[.val (.ref a1), .val (.int N), .val (.ref a2), .val (.int (3 : Int32)), .val (.int (0 : Int32)), .unset, .unset, .unset, .unset, .unset, .unset] [] := by first | (simp [entryFrame, mkF, argsToLocals, Value.category]; done) | rfl
def Qix5 (Z : State) (a1 : Addr) (a2 : Addr) (k1 : ClassId) (k2 : ClassId) (N : Int32) (bs : List Int32) (h0 : Heap) (n0 : Nat) (v : Option Value) (h : Heap) (L : List Loc) : Prop := ∃ z : Int32, v = some (.int z) ∧ Fr n0 L ∧ h = h0 ∧ (own_Ix bs z)
set_option maxRecDepth 65536 in
set_option maxHeartbeats 40000000 in
theorem rmix5 (l : Launch) (Z : State) (a0 : Array Value) (hw : ∀ d ∈ tables_1, d.before a0 Z = true) (ws : List Jvm.Cond) (a1 : Addr) (a2 : Addr) (k1 : ClassId) (k2 : ClassId) (N : Int32) (bs : List Int32) (h0 : Heap) (n0 : Nat) (Z0 : n0 ≤ h0.size) (A1 : Arv Z h0 a1 k1 .byte N (bs.map Value.int) (.int (0 : Int32))) (A2 : Arv Z h0 a2 k2 .byte (3 : Int32) [(.int (64 : Int32)), (.int (45 : Int32)), (.int (64 : Int32))] (.int (0 : Int32))) (hN : N = Int32.ofNat bs.length) (hl : bs.length ≤ 6) :
    MetFree l (⟨"java/lang/StringLatin1", "indexOf", "([BI[BII)I"⟩ : MethodName) (head1 (Jvm.Cond.code (⟨"java/lang/StringLatin1", "indexOf", "([BI[BII)I"⟩ : MethodName) jdk_43_method_25_code 11 (some .int) :: ws) ({ frames := 0, cells := 0, slots := 0, locals := 0 } : Room)) (fun a U => a = #[(.ref a1), (.int N), (.ref a2), (.int (3 : Int32)), (.int (0 : Int32))] ∧ Z.Warmed39 U.vm ∧ U.heap = h0) (fun _ _ _ _ _ => True) (fun _ U o U' => ∃ v L, o = .returned v ∧ Qix5 Z a1 a2 k1 k2 N bs h0 n0 v U'.heap L ∧ FrameEnd U o U' L ({ frames := 0, cells := 0, slots := 0, locals := 0 } : Room).cells ({ frames := 0, cells := 0, slots := 0, locals := 0 } : Room).slots) := by
  refine MetFree.of_bodySF (plainFor_of_name pn_java_lang_StringLatin1) hisR ?_
  intro p e s m args below meth c s₁ Bd hml0 hP hK
  obtain ⟨rfl, hZ, hH0⟩ := hP
  have hx := Bd.exec
  have hby := Bd.bytes
  have hml : c.maxLocals = 11 := hml0
  have hown : s.vm.findClass "java/lang/StringLatin1" = some m.cls := findClass_of_methodNamed Bd.named
  have hnm := (name_of_methodNamed Bd.named Bd.method).1
  have X0 : Stand p l e ({ frames := 0, cells := 0, slots := 0, locals := 0 } : Room) s m #[(.ref a1), (.int N), (.ref a2), (.int (3 : Int32)), (.int (0 : Int32))] below meth c s₁ [] 0 0 := Stand.of_body Bd
  have e0 : s₁.heap = h0 := by rw [← hH0, Bd.state]; rfl
  have N0 := Fr.nil n0
  refine own_cast (ef_ix5 m a1 N a2) ?_
  show own_Go p e below (fun o U' => ∃ v L, o = .returned v ∧ Qix5 Z a1 a2 k1 k2 N bs h0 n0 v U'.heap L ∧ FrameEnd s o U' L ({ frames := 0, cells := 0, slots := 0, locals := 0 } : Room).cells ({ frames := 0, cells := 0, slots := 0, locals := 0 } : Room).slots) (s₁.setTop (mkF m 0 #[.val (.ref a1), .val (.int N), .val (.ref a2), .val (.int (3 : Int32)), .val (.int (0 : Int32)), .unset, .unset, .unset, .unset, .unset, .unset] []))
  refine own_via (fun _ => XS.aloadN X0.here hx rfl (hb hby d15_0) rfl rfl) ?_
  show own_Go p e below _ (s₁.setTop (mkF m 1 #[.val (.ref a1), .val (.int N), .val (.ref a2), .val (.int (3 : Int32)), .val (.int (0 : Int32)), .unset, .unset, .unset, .unset, .unset, .unset] [(.ref a2)]))
  refine own_via (fun _ => XS.iconst X0.here hx rfl (hb hby d15_1)) ?_
  show own_Go p e below _ (s₁.setTop (mkF m 2 #[.val (.ref a1), .val (.int N), .val (.ref a2), .val (.int (3 : Int32)), .val (.int (0 : Int32)), .unset, .unset, .unset, .unset, .unset, .unset] [(.int (0 : Int32)), (.ref a2)]))
  obtain ⟨cl_1, Ar_1, q_1, S_1, M_1, H_1, G_1⟩ := (id A2)
  have in_1 : ¬ ((0 : Int32) < 0 ∨ cl_1.slots.size ≤ ((0 : Int32)).toNatClampNeg) := inb_of S_1 ⟨by decide, by decide⟩
  refine own_via (X0.baloadBytes hx (j := (0 : Int32)) (v := (.int (64 : Int32))) (by rw [e0]; exact Ar_1.1) (State.isArrayOf_alike hZ.alike Ar_1.2.1) Ar_1.2.2 in_1 (Has.at H_1 in_1 rfl) (g := (mkF m 2 #[.val (.ref a1), .val (.int N), .val (.ref a2), .val (.int (3 : Int32)), .val (.int (0 : Int32)), .unset, .unset, .unset, .unset, .unset, .unset] [(.int (0 : Int32)), (.ref a2)])) rfl rfl (hb hby d15_2)) ?_
  show own_Go p e below _ (s₁.setTop (mkF m 3 #[.val (.ref a1), .val (.int N), .val (.ref a2), .val (.int (3 : Int32)), .val (.int (0 : Int32)), .unset, .unset, .unset, .unset, .unset, .unset] [(.int (64 : Int32))]))
  refine own_via (fun _ => XS.istore X0.here hx rfl (hb hby d15_3) rfl (l' := #[.val (.ref a1), .val (.int N), .val (.ref a2), .val (.int (3 : Int32)), .val (.int (0 : Int32)), .val (.int (64 : Int32)), .unset, .unset, .unset, .unset, .unset]) rfl) ?_
  show own_Go p e below _ (s₁.setTop (mkF m 5 #[.val (.ref a1), .val (.int N), .val (.ref a2), .val (.int (3 : Int32)), .val (.int (0 : Int32)), .val (.int (64 : Int32)), .unset, .unset, .unset, .unset, .unset] []))
  refine own_via (fun _ => XS.iloadN X0.here hx rfl (hb hby d15_5) rfl) ?_
  show own_Go p e below _ (s₁.setTop (mkF m 6 #[.val (.ref a1), .val (.int N), .val (.ref a2), .val (.int (3 : Int32)), .val (.int (0 : Int32)), .val (.int (64 : Int32)), .unset, .unset, .unset, .unset, .unset] [(.int N)]))
  refine own_via (fun _ => XS.iloadN X0.here hx rfl (hb hby d15_6) rfl) ?_
  show own_Go p e below _ (s₁.setTop (mkF m 7 #[.val (.ref a1), .val (.int N), .val (.ref a2), .val (.int (3 : Int32)), .val (.int (0 : Int32)), .val (.int (64 : Int32)), .unset, .unset, .unset, .unset, .unset] [(.int (3 : Int32)), (.int N)]))
  refine own_via (fun _ => XS.isub X0.here hx rfl (hb hby d15_7) rfl) ?_
  show own_Go p e below _ (s₁.setTop (mkF m 8 #[.val (.ref a1), .val (.int N), .val (.ref a2), .val (.int (3 : Int32)), .val (.int (0 : Int32)), .val (.int (64 : Int32)), .unset, .unset, .unset, .unset, .unset] [(.int (N - (3 : Int32)))]))
  refine own_via (fun _ => XS.istore X0.here hx rfl (hb hby d15_8) rfl (l' := #[.val (.ref a1), .val (.int N), .val (.ref a2), .val (.int (3 : Int32)), .val (.int (0 : Int32)), .val (.int (64 : Int32)), .val (.int (N - (3 : Int32))), .unset, .unset, .unset, .unset]) rfl) ?_
  show own_Go p e below _ (s₁.setTop (mkF m 10 #[.val (.ref a1), .val (.int N), .val (.ref a2), .val (.int (3 : Int32)), .val (.int (0 : Int32)), .val (.int (64 : Int32)), .val (.int (N - (3 : Int32))), .unset, .unset, .unset, .unset] []))
  refine own_via (fun _ => XS.iload X0.here hx rfl (hb hby d15_10) rfl) ?_
  show own_Go p e below _ (s₁.setTop (mkF m 12 #[.val (.ref a1), .val (.int N), .val (.ref a2), .val (.int (3 : Int32)), .val (.int (0 : Int32)), .val (.int (64 : Int32)), .val (.int (N - (3 : Int32))), .unset, .unset, .unset, .unset] [(.int (0 : Int32))]))
  refine own_via (fun _ => XS.istore X0.here hx rfl (hb hby d15_12) rfl (l' := #[.val (.ref a1), .val (.int N), .val (.ref a2), .val (.int (3 : Int32)), .val (.int (0 : Int32)), .val (.int (64 : Int32)), .val (.int (N - (3 : Int32))), .val (.int (0 : Int32)), .unset, .unset, .unset]) rfl) ?_
  show own_Go p e below _ (s₁.setTop (mkF m 14 #[.val (.ref a1), .val (.int N), .val (.ref a2), .val (.int (3 : Int32)), .val (.int (0 : Int32)), .val (.int (64 : Int32)), .val (.int (N - (3 : Int32))), .val (.int (0 : Int32)), .unset, .unset, .unset] []))
  by_cases hl3 : bs.length < 3
  · refine own_via (fun _ => XS.iload X0.here hx rfl (hb hby d15_14) rfl) ?_
    show own_Go p e below _ (s₁.setTop (mkF m 16 #[.val (.ref a1), .val (.int N), .val (.ref a2), .val (.int (3 : Int32)), .val (.int (0 : Int32)), .val (.int (64 : Int32)), .val (.int (N - (3 : Int32))), .val (.int (0 : Int32)), .unset, .unset, .unset] [(.int (0 : Int32))]))
    refine own_via (fun _ => XS.iload X0.here hx rfl (hb hby d15_16) rfl) ?_
    show own_Go p e below _ (s₁.setTop (mkF m 18 #[.val (.ref a1), .val (.int N), .val (.ref a2), .val (.int (3 : Int32)), .val (.int (0 : Int32)), .val (.int (64 : Int32)), .val (.int (N - (3 : Int32))), .val (.int (0 : Int32)), .unset, .unset, .unset] [(.int (N - (3 : Int32))), (.int (0 : Int32))]))
    refine own_via (fun _ => XS.icmpYes X0.here hx rfl (pc0 := 18) (pc' := 119) rfl (hb hby d15_18) rfl (tlt (own_neg hN hl3 : (N - (3 : Int32)) < (0 : Int32))).2.2.1 (by decide) (by decide)) ?_
    show own_Go p e below _ (s₁.setTop (mkF m 119 #[.val (.ref a1), .val (.int N), .val (.ref a2), .val (.int (3 : Int32)), .val (.int (0 : Int32)), .val (.int (64 : Int32)), .val (.int (N - (3 : Int32))), .val (.int (0 : Int32)), .unset, .unset, .unset] []))
    refine own_via (fun _ => XS.iconst X0.here hx rfl (hb hby d15_119)) ?_
    show own_Go p e below _ (s₁.setTop (mkF m 120 #[.val (.ref a1), .val (.int N), .val (.ref a2), .val (.int (3 : Int32)), .val (.int (0 : Int32)), .val (.int (64 : Int32)), .val (.int (N - (3 : Int32))), .val (.int (0 : Int32)), .unset, .unset, .unset] [(.int (-1 : Int32))]))
    exact own_retv X0 Bd.notSynchronized hx Bd.returns rfl (Or.inl ⟨rfl, (by simp), _, rfl⟩) (hb hby d15_120) (by decide) (by decide) (by rw [e0]; exact ⟨(-1 : Int32), rfl, N0, rfl, (Or.inl ⟨rfl, fun j h => by have := h.1; omega⟩)⟩)
  · obtain ⟨M, hM⟩ : ∃ M, bs.length = M + 3 := ⟨bs.length - 3, by omega⟩
    have hmx : N - (3 : Int32) = Int32.ofNat M := by rw [hN, hM]; exact own_sub (i := M + 3) (k := 3) (by omega)
    obtain ⟨c1, Ar1, q1, S1, M1, H1, G1⟩ := A1
    rw [hN, hM] at S1
    have loop : ∀ (f i : Nat) (s8 s9 s10 : Slot) (o8 : One s8) (o9 : One s9) (o10 : One s10), i + f = M + 2 → (∀ j, j < i → ¬ own_at bs j) → own_Go p e below (fun o U' => ∃ v L, o = .returned v ∧ Qix5 Z a1 a2 k1 k2 N bs h0 n0 v U'.heap L ∧ FrameEnd s o U' L ({ frames := 0, cells := 0, slots := 0, locals := 0 } : Room).cells ({ frames := 0, cells := 0, slots := 0, locals := 0 } : Room).slots) (s₁.setTop (mkF m 14 #[.val (.ref a1), .val (.int N), .val (.ref a2), .val (.int (3 : Int32)), .val (.int (0 : Int32)), .val (.int (64 : Int32)), .val (.int (Int32.ofNat M)), .val (.int (Int32.ofNat i)), s8, s9, s10] [])) := by
      intro f
      induction f using Nat.strongRecOn with
      | _ f ih =>
        intro i s8 s9 s10 o8 o9 o10 hf hno
        have k52 : ∀ i', i ≤ i' → i' ≤ M + 1 → (∀ j, j < i' → ¬ own_at bs j) → (M < i' ∨ bs.getD i' 0 = 64) → own_Go p e below (fun o U' => ∃ v L, o = .returned v ∧ Qix5 Z a1 a2 k1 k2 N bs h0 n0 v U'.heap L ∧ FrameEnd s o U' L ({ frames := 0, cells := 0, slots := 0, locals := 0 } : Room).cells ({ frames := 0, cells := 0, slots := 0, locals := 0 } : Room).slots) (s₁.setTop (mkF m 52 #[.val (.ref a1), .val (.int N), .val (.ref a2), .val (.int (3 : Int32)), .val (.int (0 : Int32)), .val (.int (64 : Int32)), .val (.int (Int32.ofNat M)), .val (.int (Int32.ofNat i')), s8, s9, s10] [])) := by
          intro i' hi hi2 hno' hor
          show own_Go p e below _ (s₁.setTop (mkF m 52 #[.val (.ref a1), .val (.int N), .val (.ref a2), .val (.int (3 : Int32)), .val (.int (0 : Int32)), .val (.int (64 : Int32)), .val (.int (Int32.ofNat M)), .val (.int (Int32.ofNat i')), s8, s9, s10] []))
          refine own_via (fun _ => XS.iload X0.here hx rfl (hb hby d15_52) rfl) ?_
          show own_Go p e below _ (s₁.setTop (mkF m 54 #[.val (.ref a1), .val (.int N), .val (.ref a2), .val (.int (3 : Int32)), .val (.int (0 : Int32)), .val (.int (64 : Int32)), .val (.int (Int32.ofNat M)), .val (.int (Int32.ofNat i')), s8, s9, s10] [(.int (Int32.ofNat i'))]))
          refine own_via (fun _ => XS.iload X0.here hx rfl (hb hby d15_54) rfl) ?_
          show own_Go p e below _ (s₁.setTop (mkF m 56 #[.val (.ref a1), .val (.int N), .val (.ref a2), .val (.int (3 : Int32)), .val (.int (0 : Int32)), .val (.int (64 : Int32)), .val (.int (Int32.ofNat M)), .val (.int (Int32.ofNat i')), s8, s9, s10] [(.int (Int32.ofNat M)), (.int (Int32.ofNat i'))]))
          by_cases hgt : M < i'
          · refine own_via (fun _ => XS.icmpYes X0.here hx rfl (pc0 := 56) (pc' := 113) rfl (hb hby d15_56) rfl (tlt ((own_lt (by omega) (by omega)).mpr hgt : (Int32.ofNat M) < (Int32.ofNat i'))).2.2.1 (by decide) (by decide)) ?_
            show own_Go p e below _ (s₁.setTop (mkF m 113 #[.val (.ref a1), .val (.int N), .val (.ref a2), .val (.int (3 : Int32)), .val (.int (0 : Int32)), .val (.int (64 : Int32)), .val (.int (Int32.ofNat M)), .val (.int (Int32.ofNat i')), s8, s9, s10] []))
            refine own_via (fun _ => XS.iinc X0.here hx rfl (hb hby d15_113) rfl (l' := #[.val (.ref a1), .val (.int N), .val (.ref a2), .val (.int (3 : Int32)), .val (.int (0 : Int32)), .val (.int (64 : Int32)), .val (.int (Int32.ofNat M)), .val (.int ((Int32.ofNat i') + (1 : Int32))), s8, s9, s10]) rfl) ?_
            show own_Go p e below _ (s₁.setTop (mkF m 116 #[.val (.ref a1), .val (.int N), .val (.ref a2), .val (.int (3 : Int32)), .val (.int (0 : Int32)), .val (.int (64 : Int32)), .val (.int (Int32.ofNat M)), .val (.int ((Int32.ofNat i') + (1 : Int32))), s8, s9, s10] []))
            rw [own_succ]
            show own_Go p e below _ (s₁.setTop (mkF m 116 #[.val (.ref a1), .val (.int N), .val (.ref a2), .val (.int (3 : Int32)), .val (.int (0 : Int32)), .val (.int (64 : Int32)), .val (.int (Int32.ofNat M)), .val (.int (Int32.ofNat (i' + 1))), s8, s9, s10] []))
            refine own_via (fun _ => XS.goto X0.here hx rfl (pc0 := 116) (pc' := 14) rfl (hb hby d15_116) (by decide) (by decide)) ?_
            show own_Go p e below _ (s₁.setTop (mkF m 14 #[.val (.ref a1), .val (.int N), .val (.ref a2), .val (.int (3 : Int32)), .val (.int (0 : Int32)), .val (.int (64 : Int32)), .val (.int (Int32.ofNat M)), .val (.int (Int32.ofNat (i' + 1))), s8, s9, s10] []))
            refine ih (M + 2 - (i' + 1)) (by omega) (i' + 1) _ _ _ o8 o9 o10 (by omega) (fun j hj => ?_)
            rcases Nat.lt_succ_iff_lt_or_eq.mp hj with hj | rfl
            · exact hno' j hj
            · exact fun q => absurd q.1 (by omega)
          · refine own_via (fun _ => XS.icmpNo X0.here hx rfl (hb hby d15_56) rfl (flt (fun q => hgt ((own_lt (by omega) (by omega)).mp q) : ¬ ((Int32.ofNat M) < (Int32.ofNat i')))).2.2.1) ?_
            show own_Go p e below _ (s₁.setTop (mkF m 59 #[.val (.ref a1), .val (.int N), .val (.ref a2), .val (.int (3 : Int32)), .val (.int (0 : Int32)), .val (.int (64 : Int32)), .val (.int (Int32.ofNat M)), .val (.int (Int32.ofNat i')), s8, s9, s10] []))
            have h64 : bs.getD i' 0 = 64 := hor.resolve_left hgt
            refine own_via (fun _ => XS.iload X0.here hx rfl (hb hby d15_59) rfl) ?_
            show own_Go p e below _ (s₁.setTop (mkF m 61 #[.val (.ref a1), .val (.int N), .val (.ref a2), .val (.int (3 : Int32)), .val (.int (0 : Int32)), .val (.int (64 : Int32)), .val (.int (Int32.ofNat M)), .val (.int (Int32.ofNat i')), s8, s9, s10] [(.int (Int32.ofNat i'))]))
            refine own_via (fun _ => XS.iconst X0.here hx rfl (hb hby d15_61)) ?_
            show own_Go p e below _ (s₁.setTop (mkF m 62 #[.val (.ref a1), .val (.int N), .val (.ref a2), .val (.int (3 : Int32)), .val (.int (0 : Int32)), .val (.int (64 : Int32)), .val (.int (Int32.ofNat M)), .val (.int (Int32.ofNat i')), s8, s9, s10] [(.int (1 : Int32)), (.int (Int32.ofNat i'))]))
            refine own_via (fun _ => XS.iadd X0.here hx rfl (hb hby d15_62) rfl) ?_
            show own_Go p e below _ (s₁.setTop (mkF m 63 #[.val (.ref a1), .val (.int N), .val (.ref a2), .val (.int (3 : Int32)), .val (.int (0 : Int32)), .val (.int (64 : Int32)), .val (.int (Int32.ofNat M)), .val (.int (Int32.ofNat i')), s8, s9, s10] [(.int ((Int32.ofNat i') + (1 : Int32)))]))
            rw [own_succ]
            show own_Go p e below _ (s₁.setTop (mkF m 63 #[.val (.ref a1), .val (.int N), .val (.ref a2), .val (.int (3 : Int32)), .val (.int (0 : Int32)), .val (.int (64 : Int32)), .val (.int (Int32.ofNat M)), .val (.int (Int32.ofNat i')), s8, s9, s10] [(.int (Int32.ofNat (i' + 1)))]))
            refine own_via (fun _ => XS.istoreS X0.here hx rfl (hb hby d15_63) rfl rfl o8) ?_
            show own_Go p e below _ (s₁.setTop (mkF m 65 #[.val (.ref a1), .val (.int N), .val (.ref a2), .val (.int (3 : Int32)), .val (.int (0 : Int32)), .val (.int (64 : Int32)), .val (.int (Int32.ofNat M)), .val (.int (Int32.ofNat i')), .val (.int (Int32.ofNat (i' + 1))), s9, s10] []))
            refine own_via (fun _ => XS.iload X0.here hx rfl (hb hby d15_65) rfl) ?_
            show own_Go p e below _ (s₁.setTop (mkF m 67 #[.val (.ref a1), .val (.int N), .val (.ref a2), .val (.int (3 : Int32)), .val (.int (0 : Int32)), .val (.int (64 : Int32)), .val (.int (Int32.ofNat M)), .val (.int (Int32.ofNat i')), .val (.int (Int32.ofNat (i' + 1))), s9, s10] [(.int (Int32.ofNat (i' + 1)))]))
            refine own_via (fun _ => XS.iloadN X0.here hx rfl (hb hby d15_67) rfl) ?_
            show own_Go p e below _ (s₁.setTop (mkF m 68 #[.val (.ref a1), .val (.int N), .val (.ref a2), .val (.int (3 : Int32)), .val (.int (0 : Int32)), .val (.int (64 : Int32)), .val (.int (Int32.ofNat M)), .val (.int (Int32.ofNat i')), .val (.int (Int32.ofNat (i' + 1))), s9, s10] [(.int (3 : Int32)), (.int (Int32.ofNat (i' + 1)))]))
            refine own_via (fun _ => XS.iadd X0.here hx rfl (hb hby d15_68) rfl) ?_
            show own_Go p e below _ (s₁.setTop (mkF m 69 #[.val (.ref a1), .val (.int N), .val (.ref a2), .val (.int (3 : Int32)), .val (.int (0 : Int32)), .val (.int (64 : Int32)), .val (.int (Int32.ofNat M)), .val (.int (Int32.ofNat i')), .val (.int (Int32.ofNat (i' + 1))), s9, s10] [(.int ((Int32.ofNat (i' + 1)) + (3 : Int32)))]))
            refine own_via (fun _ => XS.iconst X0.here hx rfl (hb hby d15_69)) ?_
            show own_Go p e below _ (s₁.setTop (mkF m 70 #[.val (.ref a1), .val (.int N), .val (.ref a2), .val (.int (3 : Int32)), .val (.int (0 : Int32)), .val (.int (64 : Int32)), .val (.int (Int32.ofNat M)), .val (.int (Int32.ofNat i')), .val (.int (Int32.ofNat (i' + 1))), s9, s10] [(.int (1 : Int32)), (.int ((Int32.ofNat (i' + 1)) + (3 : Int32)))]))
            refine own_via (fun _ => XS.isub X0.here hx rfl (hb hby d15_70) rfl) ?_
            show own_Go p e below _ (s₁.setTop (mkF m 71 #[.val (.ref a1), .val (.int N), .val (.ref a2), .val (.int (3 : Int32)), .val (.int (0 : Int32)), .val (.int (64 : Int32)), .val (.int (Int32.ofNat M)), .val (.int (Int32.ofNat i')), .val (.int (Int32.ofNat (i' + 1))), s9, s10] [(.int (((Int32.ofNat (i' + 1)) + (3 : Int32)) - (1 : Int32)))]))
            rw [own_end]
            show own_Go p e below _ (s₁.setTop (mkF m 71 #[.val (.ref a1), .val (.int N), .val (.ref a2), .val (.int (3 : Int32)), .val (.int (0 : Int32)), .val (.int (64 : Int32)), .val (.int (Int32.ofNat M)), .val (.int (Int32.ofNat i')), .val (.int (Int32.ofNat (i' + 1))), s9, s10] [(.int (Int32.ofNat (i' + 3)))]))
            refine own_via (fun _ => XS.istoreS X0.here hx rfl (hb hby d15_71) rfl rfl o9) ?_
            show own_Go p e below _ (s₁.setTop (mkF m 73 #[.val (.ref a1), .val (.int N), .val (.ref a2), .val (.int (3 : Int32)), .val (.int (0 : Int32)), .val (.int (64 : Int32)), .val (.int (Int32.ofNat M)), .val (.int (Int32.ofNat i')), .val (.int (Int32.ofNat (i' + 1))), .val (.int (Int32.ofNat (i' + 3))), s10] []))
            refine own_via (fun _ => XS.iconst X0.here hx rfl (hb hby d15_73)) ?_
            show own_Go p e below _ (s₁.setTop (mkF m 74 #[.val (.ref a1), .val (.int N), .val (.ref a2), .val (.int (3 : Int32)), .val (.int (0 : Int32)), .val (.int (64 : Int32)), .val (.int (Int32.ofNat M)), .val (.int (Int32.ofNat i')), .val (.int (Int32.ofNat (i' + 1))), .val (.int (Int32.ofNat (i' + 3))), s10] [(.int (1 : Int32))]))
            refine own_via (fun _ => XS.istoreS X0.here hx rfl (hb hby d15_74) rfl rfl o10) ?_
            show own_Go p e below _ (s₁.setTop (mkF m 76 #[.val (.ref a1), .val (.int N), .val (.ref a2), .val (.int (3 : Int32)), .val (.int (0 : Int32)), .val (.int (64 : Int32)), .val (.int (Int32.ofNat M)), .val (.int (Int32.ofNat i')), .val (.int (Int32.ofNat (i' + 1))), .val (.int (Int32.ofNat (i' + 3))), .val (.int (1 : Int32))] []))
            refine own_via (fun _ => XS.iload X0.here hx rfl (hb hby d15_76) rfl) ?_
            show own_Go p e below _ (s₁.setTop (mkF m 78 #[.val (.ref a1), .val (.int N), .val (.ref a2), .val (.int (3 : Int32)), .val (.int (0 : Int32)), .val (.int (64 : Int32)), .val (.int (Int32.ofNat M)), .val (.int (Int32.ofNat i')), .val (.int (Int32.ofNat (i' + 1))), .val (.int (Int32.ofNat (i' + 3))), .val (.int (1 : Int32))] [(.int (Int32.ofNat (i' + 1)))]))
            refine own_via (fun _ => XS.iload X0.here hx rfl (hb hby d15_78) rfl) ?_
            show own_Go p e below _ (s₁.setTop (mkF m 80 #[.val (.ref a1), .val (.int N), .val (.ref a2), .val (.int (3 : Int32)), .val (.int (0 : Int32)), .val (.int (64 : Int32)), .val (.int (Int32.ofNat M)), .val (.int (Int32.ofNat i')), .val (.int (Int32.ofNat (i' + 1))), .val (.int (Int32.ofNat (i' + 3))), .val (.int (1 : Int32))] [(.int (Int32.ofNat (i' + 3))), (.int (Int32.ofNat (i' + 1)))]))
            refine own_via (fun _ => XS.icmpNo X0.here hx rfl (hb hby d15_80) rfl (tlt ((own_lt (by omega) (by omega)).mpr (by omega) : (Int32.ofNat (i' + 1)) < (Int32.ofNat (i' + 3)))).2.1) ?_
            show own_Go p e below _ (s₁.setTop (mkF m 83 #[.val (.ref a1), .val (.int N), .val (.ref a2), .val (.int (3 : Int32)), .val (.int (0 : Int32)), .val (.int (64 : Int32)), .val (.int (Int32.ofNat M)), .val (.int (Int32.ofNat i')), .val (.int (Int32.ofNat (i' + 1))), .val (.int (Int32.ofNat (i' + 3))), .val (.int (1 : Int32))] []))
            refine own_via (fun _ => XS.aloadN X0.here hx rfl (hb hby d15_83) rfl rfl) ?_
            show own_Go p e below _ (s₁.setTop (mkF m 84 #[.val (.ref a1), .val (.int N), .val (.ref a2), .val (.int (3 : Int32)), .val (.int (0 : Int32)), .val (.int (64 : Int32)), .val (.int (Int32.ofNat M)), .val (.int (Int32.ofNat i')), .val (.int (Int32.ofNat (i' + 1))), .val (.int (Int32.ofNat (i' + 3))), .val (.int (1 : Int32))] [(.ref a1)]))
            refine own_via (fun _ => XS.iload X0.here hx rfl (hb hby d15_84) rfl) ?_
            show own_Go p e below _ (s₁.setTop (mkF m 86 #[.val (.ref a1), .val (.int N), .val (.ref a2), .val (.int (3 : Int32)), .val (.int (0 : Int32)), .val (.int (64 : Int32)), .val (.int (Int32.ofNat M)), .val (.int (Int32.ofNat i')), .val (.int (Int32.ofNat (i' + 1))), .val (.int (Int32.ofNat (i' + 3))), .val (.int (1 : Int32))] [(.int (Int32.ofNat (i' + 1))), (.ref a1)]))
            have ib_2 := own_inbs (i := (i' + 1)) S1 (by omega) (by omega)
            refine own_via (X0.baloadBytes hx (j := Int32.ofNat (i' + 1)) (v := .int (bs.getD (i' + 1) 0)) (by rw [e0]; exact Ar1.1) (State.isArrayOf_alike hZ.alike Ar1.2.1) Ar1.2.2 ib_2 (Has.at H1 ib_2 (own_getD (by omega))) (g := (mkF m 86 #[.val (.ref a1), .val (.int N), .val (.ref a2), .val (.int (3 : Int32)), .val (.int (0 : Int32)), .val (.int (64 : Int32)), .val (.int (Int32.ofNat M)), .val (.int (Int32.ofNat i')), .val (.int (Int32.ofNat (i' + 1))), .val (.int (Int32.ofNat (i' + 3))), .val (.int (1 : Int32))] [(.int (Int32.ofNat (i' + 1))), (.ref a1)])) rfl rfl (hb hby d15_86)) ?_
            show own_Go p e below _ (s₁.setTop (mkF m 87 #[.val (.ref a1), .val (.int N), .val (.ref a2), .val (.int (3 : Int32)), .val (.int (0 : Int32)), .val (.int (64 : Int32)), .val (.int (Int32.ofNat M)), .val (.int (Int32.ofNat i')), .val (.int (Int32.ofNat (i' + 1))), .val (.int (Int32.ofNat (i' + 3))), .val (.int (1 : Int32))] [(.int (bs.getD (i' + 1) 0))]))
            refine own_via (fun _ => XS.aloadN X0.here hx rfl (hb hby d15_87) rfl rfl) ?_
            show own_Go p e below _ (s₁.setTop (mkF m 88 #[.val (.ref a1), .val (.int N), .val (.ref a2), .val (.int (3 : Int32)), .val (.int (0 : Int32)), .val (.int (64 : Int32)), .val (.int (Int32.ofNat M)), .val (.int (Int32.ofNat i')), .val (.int (Int32.ofNat (i' + 1))), .val (.int (Int32.ofNat (i' + 3))), .val (.int (1 : Int32))] [(.ref a2), (.int (bs.getD (i' + 1) 0))]))
            refine own_via (fun _ => XS.iload X0.here hx rfl (hb hby d15_88) rfl) ?_
            show own_Go p e below _ (s₁.setTop (mkF m 90 #[.val (.ref a1), .val (.int N), .val (.ref a2), .val (.int (3 : Int32)), .val (.int (0 : Int32)), .val (.int (64 : Int32)), .val (.int (Int32.ofNat M)), .val (.int (Int32.ofNat i')), .val (.int (Int32.ofNat (i' + 1))), .val (.int (Int32.ofNat (i' + 3))), .val (.int (1 : Int32))] [(.int (1 : Int32)), (.ref a2), (.int (bs.getD (i' + 1) 0))]))
            obtain ⟨cl_3, Ar_3, q_3, S_3, M_3, H_3, G_3⟩ := (id A2)
            have in_3 : ¬ ((1 : Int32) < 0 ∨ cl_3.slots.size ≤ ((1 : Int32)).toNatClampNeg) := inb_of S_3 ⟨by decide, by decide⟩
            refine own_via (X0.baloadBytes hx (j := (1 : Int32)) (v := (.int (45 : Int32))) (by rw [e0]; exact Ar_3.1) (State.isArrayOf_alike hZ.alike Ar_3.2.1) Ar_3.2.2 in_3 (Has.at H_3 in_3 rfl) (g := (mkF m 90 #[.val (.ref a1), .val (.int N), .val (.ref a2), .val (.int (3 : Int32)), .val (.int (0 : Int32)), .val (.int (64 : Int32)), .val (.int (Int32.ofNat M)), .val (.int (Int32.ofNat i')), .val (.int (Int32.ofNat (i' + 1))), .val (.int (Int32.ofNat (i' + 3))), .val (.int (1 : Int32))] [(.int (1 : Int32)), (.ref a2), (.int (bs.getD (i' + 1) 0))])) rfl rfl (hb hby d15_90)) ?_
            show own_Go p e below _ (s₁.setTop (mkF m 91 #[.val (.ref a1), .val (.int N), .val (.ref a2), .val (.int (3 : Int32)), .val (.int (0 : Int32)), .val (.int (64 : Int32)), .val (.int (Int32.ofNat M)), .val (.int (Int32.ofNat i')), .val (.int (Int32.ofNat (i' + 1))), .val (.int (Int32.ofNat (i' + 3))), .val (.int (1 : Int32))] [(.int (45 : Int32)), (.int (bs.getD (i' + 1) 0))]))
            by_cases hb1 : (bs.getD (i' + 1) 0) = (45 : Int32)
            · refine own_via (fun _ => XS.icmpNo X0.here hx rfl (hb hby d15_91) rfl (teq (hb1 : (bs.getD (i' + 1) 0) = (45 : Int32))).2) ?_
              show own_Go p e below _ (s₁.setTop (mkF m 94 #[.val (.ref a1), .val (.int N), .val (.ref a2), .val (.int (3 : Int32)), .val (.int (0 : Int32)), .val (.int (64 : Int32)), .val (.int (Int32.ofNat M)), .val (.int (Int32.ofNat i')), .val (.int (Int32.ofNat (i' + 1))), .val (.int (Int32.ofNat (i' + 3))), .val (.int (1 : Int32))] []))
              refine own_via (fun _ => XS.iinc X0.here hx rfl (hb hby d15_94) rfl (l' := #[.val (.ref a1), .val (.int N), .val (.ref a2), .val (.int (3 : Int32)), .val (.int (0 : Int32)), .val (.int (64 : Int32)), .val (.int (Int32.ofNat M)), .val (.int (Int32.ofNat i')), .val (.int ((Int32.ofNat (i' + 1)) + (1 : Int32))), .val (.int (Int32.ofNat (i' + 3))), .val (.int (1 : Int32))]) rfl) ?_
              show own_Go p e below _ (s₁.setTop (mkF m 97 #[.val (.ref a1), .val (.int N), .val (.ref a2), .val (.int (3 : Int32)), .val (.int (0 : Int32)), .val (.int (64 : Int32)), .val (.int (Int32.ofNat M)), .val (.int (Int32.ofNat i')), .val (.int ((Int32.ofNat (i' + 1)) + (1 : Int32))), .val (.int (Int32.ofNat (i' + 3))), .val (.int (1 : Int32))] []))
              rw [own_succ]
              show own_Go p e below _ (s₁.setTop (mkF m 97 #[.val (.ref a1), .val (.int N), .val (.ref a2), .val (.int (3 : Int32)), .val (.int (0 : Int32)), .val (.int (64 : Int32)), .val (.int (Int32.ofNat M)), .val (.int (Int32.ofNat i')), .val (.int (Int32.ofNat (i' + 2))), .val (.int (Int32.ofNat (i' + 3))), .val (.int (1 : Int32))] []))
              refine own_via (fun _ => XS.iinc X0.here hx rfl (hb hby d15_97) rfl (l' := #[.val (.ref a1), .val (.int N), .val (.ref a2), .val (.int (3 : Int32)), .val (.int (0 : Int32)), .val (.int (64 : Int32)), .val (.int (Int32.ofNat M)), .val (.int (Int32.ofNat i')), .val (.int (Int32.ofNat (i' + 2))), .val (.int (Int32.ofNat (i' + 3))), .val (.int (2 : Int32))]) rfl) ?_
              show own_Go p e below _ (s₁.setTop (mkF m 100 #[.val (.ref a1), .val (.int N), .val (.ref a2), .val (.int (3 : Int32)), .val (.int (0 : Int32)), .val (.int (64 : Int32)), .val (.int (Int32.ofNat M)), .val (.int (Int32.ofNat i')), .val (.int (Int32.ofNat (i' + 2))), .val (.int (Int32.ofNat (i' + 3))), .val (.int (2 : Int32))] []))
              show own_Go p e below _ (s₁.setTop (mkF m 100 #[.val (.ref a1), .val (.int N), .val (.ref a2), .val (.int (3 : Int32)), .val (.int (0 : Int32)), .val (.int (64 : Int32)), .val (.int (Int32.ofNat M)), .val (.int (Int32.ofNat i')), .val (.int (Int32.ofNat (i' + 2))), .val (.int (Int32.ofNat (i' + 3))), .val (.int (2 : Int32))] []))
              refine own_via (fun _ => XS.goto X0.here hx rfl (pc0 := 100) (pc' := 76) rfl (hb hby d15_100) (by decide) (by decide)) ?_
              show own_Go p e below _ (s₁.setTop (mkF m 76 #[.val (.ref a1), .val (.int N), .val (.ref a2), .val (.int (3 : Int32)), .val (.int (0 : Int32)), .val (.int (64 : Int32)), .val (.int (Int32.ofNat M)), .val (.int (Int32.ofNat i')), .val (.int (Int32.ofNat (i' + 2))), .val (.int (Int32.ofNat (i' + 3))), .val (.int (2 : Int32))] []))
              refine own_via (fun _ => XS.iload X0.here hx rfl (hb hby d15_76) rfl) ?_
              show own_Go p e below _ (s₁.setTop (mkF m 78 #[.val (.ref a1), .val (.int N), .val (.ref a2), .val (.int (3 : Int32)), .val (.int (0 : Int32)), .val (.int (64 : Int32)), .val (.int (Int32.ofNat M)), .val (.int (Int32.ofNat i')), .val (.int (Int32.ofNat (i' + 2))), .val (.int (Int32.ofNat (i' + 3))), .val (.int (2 : Int32))] [(.int (Int32.ofNat (i' + 2)))]))
              refine own_via (fun _ => XS.iload X0.here hx rfl (hb hby d15_78) rfl) ?_
              show own_Go p e below _ (s₁.setTop (mkF m 80 #[.val (.ref a1), .val (.int N), .val (.ref a2), .val (.int (3 : Int32)), .val (.int (0 : Int32)), .val (.int (64 : Int32)), .val (.int (Int32.ofNat M)), .val (.int (Int32.ofNat i')), .val (.int (Int32.ofNat (i' + 2))), .val (.int (Int32.ofNat (i' + 3))), .val (.int (2 : Int32))] [(.int (Int32.ofNat (i' + 3))), (.int (Int32.ofNat (i' + 2)))]))
              refine own_via (fun _ => XS.icmpNo X0.here hx rfl (hb hby d15_80) rfl (tlt ((own_lt (by omega) (by omega)).mpr (by omega) : (Int32.ofNat (i' + 2)) < (Int32.ofNat (i' + 3)))).2.1) ?_
              show own_Go p e below _ (s₁.setTop (mkF m 83 #[.val (.ref a1), .val (.int N), .val (.ref a2), .val (.int (3 : Int32)), .val (.int (0 : Int32)), .val (.int (64 : Int32)), .val (.int (Int32.ofNat M)), .val (.int (Int32.ofNat i')), .val (.int (Int32.ofNat (i' + 2))), .val (.int (Int32.ofNat (i' + 3))), .val (.int (2 : Int32))] []))
              refine own_via (fun _ => XS.aloadN X0.here hx rfl (hb hby d15_83) rfl rfl) ?_
              show own_Go p e below _ (s₁.setTop (mkF m 84 #[.val (.ref a1), .val (.int N), .val (.ref a2), .val (.int (3 : Int32)), .val (.int (0 : Int32)), .val (.int (64 : Int32)), .val (.int (Int32.ofNat M)), .val (.int (Int32.ofNat i')), .val (.int (Int32.ofNat (i' + 2))), .val (.int (Int32.ofNat (i' + 3))), .val (.int (2 : Int32))] [(.ref a1)]))
              refine own_via (fun _ => XS.iload X0.here hx rfl (hb hby d15_84) rfl) ?_
              show own_Go p e below _ (s₁.setTop (mkF m 86 #[.val (.ref a1), .val (.int N), .val (.ref a2), .val (.int (3 : Int32)), .val (.int (0 : Int32)), .val (.int (64 : Int32)), .val (.int (Int32.ofNat M)), .val (.int (Int32.ofNat i')), .val (.int (Int32.ofNat (i' + 2))), .val (.int (Int32.ofNat (i' + 3))), .val (.int (2 : Int32))] [(.int (Int32.ofNat (i' + 2))), (.ref a1)]))
              have ib_4 := own_inbs (i := (i' + 2)) S1 (by omega) (by omega)
              refine own_via (X0.baloadBytes hx (j := Int32.ofNat (i' + 2)) (v := .int (bs.getD (i' + 2) 0)) (by rw [e0]; exact Ar1.1) (State.isArrayOf_alike hZ.alike Ar1.2.1) Ar1.2.2 ib_4 (Has.at H1 ib_4 (own_getD (by omega))) (g := (mkF m 86 #[.val (.ref a1), .val (.int N), .val (.ref a2), .val (.int (3 : Int32)), .val (.int (0 : Int32)), .val (.int (64 : Int32)), .val (.int (Int32.ofNat M)), .val (.int (Int32.ofNat i')), .val (.int (Int32.ofNat (i' + 2))), .val (.int (Int32.ofNat (i' + 3))), .val (.int (2 : Int32))] [(.int (Int32.ofNat (i' + 2))), (.ref a1)])) rfl rfl (hb hby d15_86)) ?_
              show own_Go p e below _ (s₁.setTop (mkF m 87 #[.val (.ref a1), .val (.int N), .val (.ref a2), .val (.int (3 : Int32)), .val (.int (0 : Int32)), .val (.int (64 : Int32)), .val (.int (Int32.ofNat M)), .val (.int (Int32.ofNat i')), .val (.int (Int32.ofNat (i' + 2))), .val (.int (Int32.ofNat (i' + 3))), .val (.int (2 : Int32))] [(.int (bs.getD (i' + 2) 0))]))
              refine own_via (fun _ => XS.aloadN X0.here hx rfl (hb hby d15_87) rfl rfl) ?_
              show own_Go p e below _ (s₁.setTop (mkF m 88 #[.val (.ref a1), .val (.int N), .val (.ref a2), .val (.int (3 : Int32)), .val (.int (0 : Int32)), .val (.int (64 : Int32)), .val (.int (Int32.ofNat M)), .val (.int (Int32.ofNat i')), .val (.int (Int32.ofNat (i' + 2))), .val (.int (Int32.ofNat (i' + 3))), .val (.int (2 : Int32))] [(.ref a2), (.int (bs.getD (i' + 2) 0))]))
              refine own_via (fun _ => XS.iload X0.here hx rfl (hb hby d15_88) rfl) ?_
              show own_Go p e below _ (s₁.setTop (mkF m 90 #[.val (.ref a1), .val (.int N), .val (.ref a2), .val (.int (3 : Int32)), .val (.int (0 : Int32)), .val (.int (64 : Int32)), .val (.int (Int32.ofNat M)), .val (.int (Int32.ofNat i')), .val (.int (Int32.ofNat (i' + 2))), .val (.int (Int32.ofNat (i' + 3))), .val (.int (2 : Int32))] [(.int (2 : Int32)), (.ref a2), (.int (bs.getD (i' + 2) 0))]))
              obtain ⟨cl_5, Ar_5, q_5, S_5, M_5, H_5, G_5⟩ := (id A2)
              have in_5 : ¬ ((2 : Int32) < 0 ∨ cl_5.slots.size ≤ ((2 : Int32)).toNatClampNeg) := inb_of S_5 ⟨by decide, by decide⟩
              refine own_via (X0.baloadBytes hx (j := (2 : Int32)) (v := (.int (64 : Int32))) (by rw [e0]; exact Ar_5.1) (State.isArrayOf_alike hZ.alike Ar_5.2.1) Ar_5.2.2 in_5 (Has.at H_5 in_5 rfl) (g := (mkF m 90 #[.val (.ref a1), .val (.int N), .val (.ref a2), .val (.int (3 : Int32)), .val (.int (0 : Int32)), .val (.int (64 : Int32)), .val (.int (Int32.ofNat M)), .val (.int (Int32.ofNat i')), .val (.int (Int32.ofNat (i' + 2))), .val (.int (Int32.ofNat (i' + 3))), .val (.int (2 : Int32))] [(.int (2 : Int32)), (.ref a2), (.int (bs.getD (i' + 2) 0))])) rfl rfl (hb hby d15_90)) ?_
              show own_Go p e below _ (s₁.setTop (mkF m 91 #[.val (.ref a1), .val (.int N), .val (.ref a2), .val (.int (3 : Int32)), .val (.int (0 : Int32)), .val (.int (64 : Int32)), .val (.int (Int32.ofNat M)), .val (.int (Int32.ofNat i')), .val (.int (Int32.ofNat (i' + 2))), .val (.int (Int32.ofNat (i' + 3))), .val (.int (2 : Int32))] [(.int (64 : Int32)), (.int (bs.getD (i' + 2) 0))]))
              by_cases hb2 : (bs.getD (i' + 2) 0) = (64 : Int32)
              · refine own_via (fun _ => XS.icmpNo X0.here hx rfl (hb hby d15_91) rfl (teq (hb2 : (bs.getD (i' + 2) 0) = (64 : Int32))).2) ?_
                show own_Go p e below _ (s₁.setTop (mkF m 94 #[.val (.ref a1), .val (.int N), .val (.ref a2), .val (.int (3 : Int32)), .val (.int (0 : Int32)), .val (.int (64 : Int32)), .val (.int (Int32.ofNat M)), .val (.int (Int32.ofNat i')), .val (.int (Int32.ofNat (i' + 2))), .val (.int (Int32.ofNat (i' + 3))), .val (.int (2 : Int32))] []))
                refine own_via (fun _ => XS.iinc X0.here hx rfl (hb hby d15_94) rfl (l' := #[.val (.ref a1), .val (.int N), .val (.ref a2), .val (.int (3 : Int32)), .val (.int (0 : Int32)), .val (.int (64 : Int32)), .val (.int (Int32.ofNat M)), .val (.int (Int32.ofNat i')), .val (.int ((Int32.ofNat (i' + 2)) + (1 : Int32))), .val (.int (Int32.ofNat (i' + 3))), .val (.int (2 : Int32))]) rfl) ?_
                show own_Go p e below _ (s₁.setTop (mkF m 97 #[.val (.ref a1), .val (.int N), .val (.ref a2), .val (.int (3 : Int32)), .val (.int (0 : Int32)), .val (.int (64 : Int32)), .val (.int (Int32.ofNat M)), .val (.int (Int32.ofNat i')), .val (.int ((Int32.ofNat (i' + 2)) + (1 : Int32))), .val (.int (Int32.ofNat (i' + 3))), .val (.int (2 : Int32))] []))
                rw [own_succ]
                show own_Go p e below _ (s₁.setTop (mkF m 97 #[.val (.ref a1), .val (.int N), .val (.ref a2), .val (.int (3 : Int32)), .val (.int (0 : Int32)), .val (.int (64 : Int32)), .val (.int (Int32.ofNat M)), .val (.int (Int32.ofNat i')), .val (.int (Int32.ofNat (i' + 3))), .val (.int (Int32.ofNat (i' + 3))), .val (.int (2 : Int32))] []))
                refine own_via (fun _ => XS.iinc X0.here hx rfl (hb hby d15_97) rfl (l' := #[.val (.ref a1), .val (.int N), .val (.ref a2), .val (.int (3 : Int32)), .val (.int (0 : Int32)), .val (.int (64 : Int32)), .val (.int (Int32.ofNat M)), .val (.int (Int32.ofNat i')), .val (.int (Int32.ofNat (i' + 3))), .val (.int (Int32.ofNat (i' + 3))), .val (.int (3 : Int32))]) rfl) ?_
                show own_Go p e below _ (s₁.setTop (mkF m 100 #[.val (.ref a1), .val (.int N), .val (.ref a2), .val (.int (3 : Int32)), .val (.int (0 : Int32)), .val (.int (64 : Int32)), .val (.int (Int32.ofNat M)), .val (.int (Int32.ofNat i')), .val (.int (Int32.ofNat (i' + 3))), .val (.int (Int32.ofNat (i' + 3))), .val (.int (3 : Int32))] []))
                show own_Go p e below _ (s₁.setTop (mkF m 100 #[.val (.ref a1), .val (.int N), .val (.ref a2), .val (.int (3 : Int32)), .val (.int (0 : Int32)), .val (.int (64 : Int32)), .val (.int (Int32.ofNat M)), .val (.int (Int32.ofNat i')), .val (.int (Int32.ofNat (i' + 3))), .val (.int (Int32.ofNat (i' + 3))), .val (.int (3 : Int32))] []))
                refine own_via (fun _ => XS.goto X0.here hx rfl (pc0 := 100) (pc' := 76) rfl (hb hby d15_100) (by decide) (by decide)) ?_
                show own_Go p e below _ (s₁.setTop (mkF m 76 #[.val (.ref a1), .val (.int N), .val (.ref a2), .val (.int (3 : Int32)), .val (.int (0 : Int32)), .val (.int (64 : Int32)), .val (.int (Int32.ofNat M)), .val (.int (Int32.ofNat i')), .val (.int (Int32.ofNat (i' + 3))), .val (.int (Int32.ofNat (i' + 3))), .val (.int (3 : Int32))] []))
                refine own_via (fun _ => XS.iload X0.here hx rfl (hb hby d15_76) rfl) ?_
                show own_Go p e below _ (s₁.setTop (mkF m 78 #[.val (.ref a1), .val (.int N), .val (.ref a2), .val (.int (3 : Int32)), .val (.int (0 : Int32)), .val (.int (64 : Int32)), .val (.int (Int32.ofNat M)), .val (.int (Int32.ofNat i')), .val (.int (Int32.ofNat (i' + 3))), .val (.int (Int32.ofNat (i' + 3))), .val (.int (3 : Int32))] [(.int (Int32.ofNat (i' + 3)))]))
                refine own_via (fun _ => XS.iload X0.here hx rfl (hb hby d15_78) rfl) ?_
                show own_Go p e below _ (s₁.setTop (mkF m 80 #[.val (.ref a1), .val (.int N), .val (.ref a2), .val (.int (3 : Int32)), .val (.int (0 : Int32)), .val (.int (64 : Int32)), .val (.int (Int32.ofNat M)), .val (.int (Int32.ofNat i')), .val (.int (Int32.ofNat (i' + 3))), .val (.int (Int32.ofNat (i' + 3))), .val (.int (3 : Int32))] [(.int (Int32.ofNat (i' + 3))), (.int (Int32.ofNat (i' + 3)))]))
                refine own_via (fun _ => XS.icmpYes X0.here hx rfl (pc0 := 80) (pc' := 103) rfl (hb hby d15_80) rfl (flt (fun q => absurd ((own_lt (by omega) (by omega)).mp q) (by omega) : ¬ ((Int32.ofNat (i' + 3)) < (Int32.ofNat (i' + 3))))).2.1 (by decide) (by decide)) ?_
                show own_Go p e below _ (s₁.setTop (mkF m 103 #[.val (.ref a1), .val (.int N), .val (.ref a2), .val (.int (3 : Int32)), .val (.int (0 : Int32)), .val (.int (64 : Int32)), .val (.int (Int32.ofNat M)), .val (.int (Int32.ofNat i')), .val (.int (Int32.ofNat (i' + 3))), .val (.int (Int32.ofNat (i' + 3))), .val (.int (3 : Int32))] []))
                refine own_via (fun _ => XS.iload X0.here hx rfl (hb hby d15_103) rfl) ?_
                show own_Go p e below _ (s₁.setTop (mkF m 105 #[.val (.ref a1), .val (.int N), .val (.ref a2), .val (.int (3 : Int32)), .val (.int (0 : Int32)), .val (.int (64 : Int32)), .val (.int (Int32.ofNat M)), .val (.int (Int32.ofNat i')), .val (.int (Int32.ofNat (i' + 3))), .val (.int (Int32.ofNat (i' + 3))), .val (.int (3 : Int32))] [(.int (Int32.ofNat (i' + 3)))]))
                refine own_via (fun _ => XS.iload X0.here hx rfl (hb hby d15_105) rfl) ?_
                show own_Go p e below _ (s₁.setTop (mkF m 107 #[.val (.ref a1), .val (.int N), .val (.ref a2), .val (.int (3 : Int32)), .val (.int (0 : Int32)), .val (.int (64 : Int32)), .val (.int (Int32.ofNat M)), .val (.int (Int32.ofNat i')), .val (.int (Int32.ofNat (i' + 3))), .val (.int (Int32.ofNat (i' + 3))), .val (.int (3 : Int32))] [(.int (Int32.ofNat (i' + 3))), (.int (Int32.ofNat (i' + 3)))]))
                refine own_via (fun _ => XS.icmpNo X0.here hx rfl (hb hby d15_107) rfl (teq (rfl : (Int32.ofNat (i' + 3)) = (Int32.ofNat (i' + 3)))).2) ?_
                show own_Go p e below _ (s₁.setTop (mkF m 110 #[.val (.ref a1), .val (.int N), .val (.ref a2), .val (.int (3 : Int32)), .val (.int (0 : Int32)), .val (.int (64 : Int32)), .val (.int (Int32.ofNat M)), .val (.int (Int32.ofNat i')), .val (.int (Int32.ofNat (i' + 3))), .val (.int (Int32.ofNat (i' + 3))), .val (.int (3 : Int32))] []))
                refine own_via (fun _ => XS.iload X0.here hx rfl (hb hby d15_110) rfl) ?_
                show own_Go p e below _ (s₁.setTop (mkF m 112 #[.val (.ref a1), .val (.int N), .val (.ref a2), .val (.int (3 : Int32)), .val (.int (0 : Int32)), .val (.int (64 : Int32)), .val (.int (Int32.ofNat M)), .val (.int (Int32.ofNat i')), .val (.int (Int32.ofNat (i' + 3))), .val (.int (Int32.ofNat (i' + 3))), .val (.int (3 : Int32))] [(.int (Int32.ofNat i'))]))
                exact own_retv X0 Bd.notSynchronized hx Bd.returns rfl (Or.inl ⟨rfl, (by simp), _, rfl⟩) (hb hby d15_112) (by decide) (by decide) (by rw [e0]; exact ⟨(Int32.ofNat i'), rfl, N0, rfl, (Or.inr ⟨i', rfl, ⟨by omega, h64, hb1, hb2⟩, hno'⟩)⟩)
              · refine own_via (fun _ => XS.icmpYes X0.here hx rfl (pc0 := 91) (pc' := 103) rfl (hb hby d15_91) rfl (feq (hb2 : ¬ ((bs.getD (i' + 2) 0) = (64 : Int32)))).2 (by decide) (by decide)) ?_
                show own_Go p e below _ (s₁.setTop (mkF m 103 #[.val (.ref a1), .val (.int N), .val (.ref a2), .val (.int (3 : Int32)), .val (.int (0 : Int32)), .val (.int (64 : Int32)), .val (.int (Int32.ofNat M)), .val (.int (Int32.ofNat i')), .val (.int (Int32.ofNat (i' + 2))), .val (.int (Int32.ofNat (i' + 3))), .val (.int (2 : Int32))] []))
                refine own_via (fun _ => XS.iload X0.here hx rfl (hb hby d15_103) rfl) ?_
                show own_Go p e below _ (s₁.setTop (mkF m 105 #[.val (.ref a1), .val (.int N), .val (.ref a2), .val (.int (3 : Int32)), .val (.int (0 : Int32)), .val (.int (64 : Int32)), .val (.int (Int32.ofNat M)), .val (.int (Int32.ofNat i')), .val (.int (Int32.ofNat (i' + 2))), .val (.int (Int32.ofNat (i' + 3))), .val (.int (2 : Int32))] [(.int (Int32.ofNat (i' + 2)))]))
                refine own_via (fun _ => XS.iload X0.here hx rfl (hb hby d15_105) rfl) ?_
                show own_Go p e below _ (s₁.setTop (mkF m 107 #[.val (.ref a1), .val (.int N), .val (.ref a2), .val (.int (3 : Int32)), .val (.int (0 : Int32)), .val (.int (64 : Int32)), .val (.int (Int32.ofNat M)), .val (.int (Int32.ofNat i')), .val (.int (Int32.ofNat (i' + 2))), .val (.int (Int32.ofNat (i' + 3))), .val (.int (2 : Int32))] [(.int (Int32.ofNat (i' + 3))), (.int (Int32.ofNat (i' + 2)))]))
                refine own_via (fun _ => XS.icmpYes X0.here hx rfl (pc0 := 107) (pc' := 113) rfl (hb hby d15_107) rfl (feq (fun q => absurd ((own_eq (by omega) (by omega)).mp q) (by omega) : ¬ ((Int32.ofNat (i' + 2)) = (Int32.ofNat (i' + 3))))).2 (by decide) (by decide)) ?_
                show own_Go p e below _ (s₁.setTop (mkF m 113 #[.val (.ref a1), .val (.int N), .val (.ref a2), .val (.int (3 : Int32)), .val (.int (0 : Int32)), .val (.int (64 : Int32)), .val (.int (Int32.ofNat M)), .val (.int (Int32.ofNat i')), .val (.int (Int32.ofNat (i' + 2))), .val (.int (Int32.ofNat (i' + 3))), .val (.int (2 : Int32))] []))
                refine own_via (fun _ => XS.iinc X0.here hx rfl (hb hby d15_113) rfl (l' := #[.val (.ref a1), .val (.int N), .val (.ref a2), .val (.int (3 : Int32)), .val (.int (0 : Int32)), .val (.int (64 : Int32)), .val (.int (Int32.ofNat M)), .val (.int ((Int32.ofNat i') + (1 : Int32))), .val (.int (Int32.ofNat (i' + 2))), .val (.int (Int32.ofNat (i' + 3))), .val (.int (2 : Int32))]) rfl) ?_
                show own_Go p e below _ (s₁.setTop (mkF m 116 #[.val (.ref a1), .val (.int N), .val (.ref a2), .val (.int (3 : Int32)), .val (.int (0 : Int32)), .val (.int (64 : Int32)), .val (.int (Int32.ofNat M)), .val (.int ((Int32.ofNat i') + (1 : Int32))), .val (.int (Int32.ofNat (i' + 2))), .val (.int (Int32.ofNat (i' + 3))), .val (.int (2 : Int32))] []))
                rw [own_succ]
                show own_Go p e below _ (s₁.setTop (mkF m 116 #[.val (.ref a1), .val (.int N), .val (.ref a2), .val (.int (3 : Int32)), .val (.int (0 : Int32)), .val (.int (64 : Int32)), .val (.int (Int32.ofNat M)), .val (.int (Int32.ofNat (i' + 1))), .val (.int (Int32.ofNat (i' + 2))), .val (.int (Int32.ofNat (i' + 3))), .val (.int (2 : Int32))] []))
                refine own_via (fun _ => XS.goto X0.here hx rfl (pc0 := 116) (pc' := 14) rfl (hb hby d15_116) (by decide) (by decide)) ?_
                show own_Go p e below _ (s₁.setTop (mkF m 14 #[.val (.ref a1), .val (.int N), .val (.ref a2), .val (.int (3 : Int32)), .val (.int (0 : Int32)), .val (.int (64 : Int32)), .val (.int (Int32.ofNat M)), .val (.int (Int32.ofNat (i' + 1))), .val (.int (Int32.ofNat (i' + 2))), .val (.int (Int32.ofNat (i' + 3))), .val (.int (2 : Int32))] []))
                refine ih (M + 2 - (i' + 1)) (by omega) (i' + 1) _ _ _ (One.val rfl) (One.val rfl) (One.val rfl) (by omega) (fun j hj => ?_)
                rcases Nat.lt_succ_iff_lt_or_eq.mp hj with hj | rfl
                · exact hno' j hj
                · exact fun q => hb2 q.2.2.2
            · refine own_via (fun _ => XS.icmpYes X0.here hx rfl (pc0 := 91) (pc' := 103) rfl (hb hby d15_91) rfl (feq (hb1 : ¬ ((bs.getD (i' + 1) 0) = (45 : Int32)))).2 (by decide) (by decide)) ?_
              show own_Go p e below _ (s₁.setTop (mkF m 103 #[.val (.ref a1), .val (.int N), .val (.ref a2), .val (.int (3 : Int32)), .val (.int (0 : Int32)), .val (.int (64 : Int32)), .val (.int (Int32.ofNat M)), .val (.int (Int32.ofNat i')), .val (.int (Int32.ofNat (i' + 1))), .val (.int (Int32.ofNat (i' + 3))), .val (.int (1 : Int32))] []))
              refine own_via (fun _ => XS.iload X0.here hx rfl (hb hby d15_103) rfl) ?_
              show own_Go p e below _ (s₁.setTop (mkF m 105 #[.val (.ref a1), .val (.int N), .val (.ref a2), .val (.int (3 : Int32)), .val (.int (0 : Int32)), .val (.int (64 : Int32)), .val (.int (Int32.ofNat M)), .val (.int (Int32.ofNat i')), .val (.int (Int32.ofNat (i' + 1))), .val (.int (Int32.ofNat (i' + 3))), .val (.int (1 : Int32))] [(.int (Int32.ofNat (i' + 1)))]))
              refine own_via (fun _ => XS.iload X0.here hx rfl (hb hby d15_105) rfl) ?_
              show own_Go p e below _ (s₁.setTop (mkF m 107 #[.val (.ref a1), .val (.int N), .val (.ref a2), .val (.int (3 : Int32)), .val (.int (0 : Int32)), .val (.int (64 : Int32)), .val (.int (Int32.ofNat M)), .val (.int (Int32.ofNat i')), .val (.int (Int32.ofNat (i' + 1))), .val (.int (Int32.ofNat (i' + 3))), .val (.int (1 : Int32))] [(.int (Int32.ofNat (i' + 3))), (.int (Int32.ofNat (i' + 1)))]))
              refine own_via (fun _ => XS.icmpYes X0.here hx rfl (pc0 := 107) (pc' := 113) rfl (hb hby d15_107) rfl (feq (fun q => absurd ((own_eq (by omega) (by omega)).mp q) (by omega) : ¬ ((Int32.ofNat (i' + 1)) = (Int32.ofNat (i' + 3))))).2 (by decide) (by decide)) ?_
              show own_Go p e below _ (s₁.setTop (mkF m 113 #[.val (.ref a1), .val (.int N), .val (.ref a2), .val (.int (3 : Int32)), .val (.int (0 : Int32)), .val (.int (64 : Int32)), .val (.int (Int32.ofNat M)), .val (.int (Int32.ofNat i')), .val (.int (Int32.ofNat (i' + 1))), .val (.int (Int32.ofNat (i' + 3))), .val (.int (1 : Int32))] []))
              refine own_via (fun _ => XS.iinc X0.here hx rfl (hb hby d15_113) rfl (l' := #[.val (.ref a1), .val (.int N), .val (.ref a2), .val (.int (3 : Int32)), .val (.int (0 : Int32)), .val (.int (64 : Int32)), .val (.int (Int32.ofNat M)), .val (.int ((Int32.ofNat i') + (1 : Int32))), .val (.int (Int32.ofNat (i' + 1))), .val (.int (Int32.ofNat (i' + 3))), .val (.int (1 : Int32))]) rfl) ?_
              show own_Go p e below _ (s₁.setTop (mkF m 116 #[.val (.ref a1), .val (.int N), .val (.ref a2), .val (.int (3 : Int32)), .val (.int (0 : Int32)), .val (.int (64 : Int32)), .val (.int (Int32.ofNat M)), .val (.int ((Int32.ofNat i') + (1 : Int32))), .val (.int (Int32.ofNat (i' + 1))), .val (.int (Int32.ofNat (i' + 3))), .val (.int (1 : Int32))] []))
              rw [own_succ]
              show own_Go p e below _ (s₁.setTop (mkF m 116 #[.val (.ref a1), .val (.int N), .val (.ref a2), .val (.int (3 : Int32)), .val (.int (0 : Int32)), .val (.int (64 : Int32)), .val (.int (Int32.ofNat M)), .val (.int (Int32.ofNat (i' + 1))), .val (.int (Int32.ofNat (i' + 1))), .val (.int (Int32.ofNat (i' + 3))), .val (.int (1 : Int32))] []))
              refine own_via (fun _ => XS.goto X0.here hx rfl (pc0 := 116) (pc' := 14) rfl (hb hby d15_116) (by decide) (by decide)) ?_
              show own_Go p e below _ (s₁.setTop (mkF m 14 #[.val (.ref a1), .val (.int N), .val (.ref a2), .val (.int (3 : Int32)), .val (.int (0 : Int32)), .val (.int (64 : Int32)), .val (.int (Int32.ofNat M)), .val (.int (Int32.ofNat (i' + 1))), .val (.int (Int32.ofNat (i' + 1))), .val (.int (Int32.ofNat (i' + 3))), .val (.int (1 : Int32))] []))
              refine ih (M + 2 - (i' + 1)) (by omega) (i' + 1) _ _ _ (One.val rfl) (One.val rfl) (One.val rfl) (by omega) (fun j hj => ?_)
              rcases Nat.lt_succ_iff_lt_or_eq.mp hj with hj | rfl
              · exact hno' j hj
              · exact fun q => hb1 q.2.2.1
        have k30 : ∀ (g i' : Nat), i' + g = M + 1 → i ≤ i' → i' ≤ M → (∀ j, j ≤ i' → ¬ own_at bs j) → own_Go p e below (fun o U' => ∃ v L, o = .returned v ∧ Qix5 Z a1 a2 k1 k2 N bs h0 n0 v U'.heap L ∧ FrameEnd s o U' L ({ frames := 0, cells := 0, slots := 0, locals := 0 } : Room).cells ({ frames := 0, cells := 0, slots := 0, locals := 0 } : Room).slots) (s₁.setTop (mkF m 30 #[.val (.ref a1), .val (.int N), .val (.ref a2), .val (.int (3 : Int32)), .val (.int (0 : Int32)), .val (.int (64 : Int32)), .val (.int (Int32.ofNat M)), .val (.int (Int32.ofNat i')), s8, s9, s10] [])) := by
          intro g
          induction g using Nat.strongRecOn with
          | _ g ih2 =>
            intro i' hg hi hiM hno'
            show own_Go p e below _ (s₁.setTop (mkF m 30 #[.val (.ref a1), .val (.int N), .val (.ref a2), .val (.int (3 : Int32)), .val (.int (0 : Int32)), .val (.int (64 : Int32)), .val (.int (Int32.ofNat M)), .val (.int (Int32.ofNat i')), s8, s9, s10] []))
            refine own_via (fun _ => XS.iinc X0.here hx rfl (hb hby d15_30) rfl (l' := #[.val (.ref a1), .val (.int N), .val (.ref a2), .val (.int (3 : Int32)), .val (.int (0 : Int32)), .val (.int (64 : Int32)), .val (.int (Int32.ofNat M)), .val (.int ((Int32.ofNat i') + (1 : Int32))), s8, s9, s10]) rfl) ?_
            show own_Go p e below _ (s₁.setTop (mkF m 33 #[.val (.ref a1), .val (.int N), .val (.ref a2), .val (.int (3 : Int32)), .val (.int (0 : Int32)), .val (.int (64 : Int32)), .val (.int (Int32.ofNat M)), .val (.int ((Int32.ofNat i') + (1 : Int32))), s8, s9, s10] []))
            rw [own_succ]
            show own_Go p e below _ (s₁.setTop (mkF m 33 #[.val (.ref a1), .val (.int N), .val (.ref a2), .val (.int (3 : Int32)), .val (.int (0 : Int32)), .val (.int (64 : Int32)), .val (.int (Int32.ofNat M)), .val (.int (Int32.ofNat (i' + 1))), s8, s9, s10] []))
            refine own_via (fun _ => XS.iload X0.here hx rfl (hb hby d15_33) rfl) ?_
            show own_Go p e below _ (s₁.setTop (mkF m 35 #[.val (.ref a1), .val (.int N), .val (.ref a2), .val (.int (3 : Int32)), .val (.int (0 : Int32)), .val (.int (64 : Int32)), .val (.int (Int32.ofNat M)), .val (.int (Int32.ofNat (i' + 1))), s8, s9, s10] [(.int (Int32.ofNat (i' + 1)))]))
            refine own_via (fun _ => XS.iload X0.here hx rfl (hb hby d15_35) rfl) ?_
            show own_Go p e below _ (s₁.setTop (mkF m 37 #[.val (.ref a1), .val (.int N), .val (.ref a2), .val (.int (3 : Int32)), .val (.int (0 : Int32)), .val (.int (64 : Int32)), .val (.int (Int32.ofNat M)), .val (.int (Int32.ofNat (i' + 1))), s8, s9, s10] [(.int (Int32.ofNat M)), (.int (Int32.ofNat (i' + 1)))]))
            by_cases hgt : M < i' + 1
            · refine own_via (fun _ => XS.icmpYes X0.here hx rfl (pc0 := 37) (pc' := 52) rfl (hb hby d15_37) rfl (tlt ((own_lt (by omega) (by omega)).mpr hgt : (Int32.ofNat M) < (Int32.ofNat (i' + 1)))).2.2.1 (by decide) (by decide)) ?_
              show own_Go p e below _ (s₁.setTop (mkF m 52 #[.val (.ref a1), .val (.int N), .val (.ref a2), .val (.int (3 : Int32)), .val (.int (0 : Int32)), .val (.int (64 : Int32)), .val (.int (Int32.ofNat M)), .val (.int (Int32.ofNat (i' + 1))), s8, s9, s10] []))
              exact k52 (i' + 1) (by omega) (by omega) (fun j hj => hno' j (by omega)) (Or.inl hgt)
            · refine own_via (fun _ => XS.icmpNo X0.here hx rfl (hb hby d15_37) rfl (flt (fun q => hgt ((own_lt (by omega) (by omega)).mp q) : ¬ ((Int32.ofNat M) < (Int32.ofNat (i' + 1))))).2.2.1) ?_
              show own_Go p e below _ (s₁.setTop (mkF m 40 #[.val (.ref a1), .val (.int N), .val (.ref a2), .val (.int (3 : Int32)), .val (.int (0 : Int32)), .val (.int (64 : Int32)), .val (.int (Int32.ofNat M)), .val (.int (Int32.ofNat (i' + 1))), s8, s9, s10] []))
              refine own_via (fun _ => XS.aloadN X0.here hx rfl (hb hby d15_40) rfl rfl) ?_
              show own_Go p e below _ (s₁.setTop (mkF m 41 #[.val (.ref a1), .val (.int N), .val (.ref a2), .val (.int (3 : Int32)), .val (.int (0 : Int32)), .val (.int (64 : Int32)), .val (.int (Int32.ofNat M)), .val (.int (Int32.ofNat (i' + 1))), s8, s9, s10] [(.ref a1)]))
              refine own_via (fun _ => XS.iload X0.here hx rfl (hb hby d15_41) rfl) ?_
              show own_Go p e below _ (s₁.setTop (mkF m 43 #[.val (.ref a1), .val (.int N), .val (.ref a2), .val (.int (3 : Int32)), .val (.int (0 : Int32)), .val (.int (64 : Int32)), .val (.int (Int32.ofNat M)), .val (.int (Int32.ofNat (i' + 1))), s8, s9, s10] [(.int (Int32.ofNat (i' + 1))), (.ref a1)]))
              have ib_6 := own_inbs (i := (i' + 1)) S1 (by omega) (by omega)
              refine own_via (X0.baloadBytes hx (j := Int32.ofNat (i' + 1)) (v := .int (bs.getD (i' + 1) 0)) (by rw [e0]; exact Ar1.1) (State.isArrayOf_alike hZ.alike Ar1.2.1) Ar1.2.2 ib_6 (Has.at H1 ib_6 (own_getD (by omega))) (g := (mkF m 43 #[.val (.ref a1), .val (.int N), .val (.ref a2), .val (.int (3 : Int32)), .val (.int (0 : Int32)), .val (.int (64 : Int32)), .val (.int (Int32.ofNat M)), .val (.int (Int32.ofNat (i' + 1))), s8, s9, s10] [(.int (Int32.ofNat (i' + 1))), (.ref a1)])) rfl rfl (hb hby d15_43)) ?_
              show own_Go p e below _ (s₁.setTop (mkF m 44 #[.val (.ref a1), .val (.int N), .val (.ref a2), .val (.int (3 : Int32)), .val (.int (0 : Int32)), .val (.int (64 : Int32)), .val (.int (Int32.ofNat M)), .val (.int (Int32.ofNat (i' + 1))), s8, s9, s10] [(.int (bs.getD (i' + 1) 0))]))
              refine own_via (fun _ => XS.iload X0.here hx rfl (hb hby d15_44) rfl) ?_
              show own_Go p e below _ (s₁.setTop (mkF m 46 #[.val (.ref a1), .val (.int N), .val (.ref a2), .val (.int (3 : Int32)), .val (.int (0 : Int32)), .val (.int (64 : Int32)), .val (.int (Int32.ofNat M)), .val (.int (Int32.ofNat (i' + 1))), s8, s9, s10] [(.int (64 : Int32)), (.int (bs.getD (i' + 1) 0))]))
              by_cases h64 : (bs.getD (i' + 1) 0) = (64 : Int32)
              · refine own_via (fun _ => XS.icmpYes X0.here hx rfl (pc0 := 46) (pc' := 52) rfl (hb hby d15_46) rfl (teq (h64 : (bs.getD (i' + 1) 0) = (64 : Int32))).1 (by decide) (by decide)) ?_
                show own_Go p e below _ (s₁.setTop (mkF m 52 #[.val (.ref a1), .val (.int N), .val (.ref a2), .val (.int (3 : Int32)), .val (.int (0 : Int32)), .val (.int (64 : Int32)), .val (.int (Int32.ofNat M)), .val (.int (Int32.ofNat (i' + 1))), s8, s9, s10] []))
                exact k52 (i' + 1) (by omega) (by omega) (fun j hj => hno' j (by omega)) (Or.inr h64)
              · refine own_via (fun _ => XS.icmpNo X0.here hx rfl (hb hby d15_46) rfl (feq (h64 : ¬ ((bs.getD (i' + 1) 0) = (64 : Int32)))).1) ?_
                show own_Go p e below _ (s₁.setTop (mkF m 49 #[.val (.ref a1), .val (.int N), .val (.ref a2), .val (.int (3 : Int32)), .val (.int (0 : Int32)), .val (.int (64 : Int32)), .val (.int (Int32.ofNat M)), .val (.int (Int32.ofNat (i' + 1))), s8, s9, s10] []))
                refine own_via (fun _ => XS.goto X0.here hx rfl (pc0 := 49) (pc' := 30) rfl (hb hby d15_49) (by decide) (by decide)) ?_
                show own_Go p e below _ (s₁.setTop (mkF m 30 #[.val (.ref a1), .val (.int N), .val (.ref a2), .val (.int (3 : Int32)), .val (.int (0 : Int32)), .val (.int (64 : Int32)), .val (.int (Int32.ofNat M)), .val (.int (Int32.ofNat (i' + 1))), s8, s9, s10] []))
                refine ih2 (g - 1) (by omega) (i' + 1) (by omega) (by omega) (by omega) (fun j hj => ?_)
                rcases Nat.lt_or_ge i' j with hj2 | hj2
                · obtain rfl : j = i' + 1 := by omega
                  exact fun q => h64 q.2.1
                · exact hno' j hj2
        show own_Go p e below _ (s₁.setTop (mkF m 14 #[.val (.ref a1), .val (.int N), .val (.ref a2), .val (.int (3 : Int32)), .val (.int (0 : Int32)), .val (.int (64 : Int32)), .val (.int (Int32.ofNat M)), .val (.int (Int32.ofNat i)), s8, s9, s10] []))
        refine own_via (fun _ => XS.iload X0.here hx rfl (hb hby d15_14) rfl) ?_
        show own_Go p e below _ (s₁.setTop (mkF m 16 #[.val (.ref a1), .val (.int N), .val (.ref a2), .val (.int (3 : Int32)), .val (.int (0 : Int32)), .val (.int (64 : Int32)), .val (.int (Int32.ofNat M)), .val (.int (Int32.ofNat i)), s8, s9, s10] [(.int (Int32.ofNat i))]))
        refine own_via (fun _ => XS.iload X0.here hx rfl (hb hby d15_16) rfl) ?_
        show own_Go p e below _ (s₁.setTop (mkF m 18 #[.val (.ref a1), .val (.int N), .val (.ref a2), .val (.int (3 : Int32)), .val (.int (0 : Int32)), .val (.int (64 : Int32)), .val (.int (Int32.ofNat M)), .val (.int (Int32.ofNat i)), s8, s9, s10] [(.int (Int32.ofNat M)), (.int (Int32.ofNat i))]))
        by_cases hgt : M < i
        · refine own_via (fun _ => XS.icmpYes X0.here hx rfl (pc0 := 18) (pc' := 119) rfl (hb hby d15_18) rfl (tlt ((own_lt (by omega) (by omega)).mpr hgt : (Int32.ofNat M) < (Int32.ofNat i))).2.2.1 (by decide) (by decide)) ?_
          show own_Go p e below _ (s₁.setTop (mkF m 119 #[.val (.ref a1), .val (.int N), .val (.ref a2), .val (.int (3 : Int32)), .val (.int (0 : Int32)), .val (.int (64 : Int32)), .val (.int (Int32.ofNat M)), .val (.int (Int32.ofNat i)), s8, s9, s10] []))
          refine own_via (fun _ => XS.iconst X0.here hx rfl (hb hby d15_119)) ?_
          show own_Go p e below _ (s₁.setTop (mkF m 120 #[.val (.ref a1), .val (.int N), .val (.ref a2), .val (.int (3 : Int32)), .val (.int (0 : Int32)), .val (.int (64 : Int32)), .val (.int (Int32.ofNat M)), .val (.int (Int32.ofNat i)), s8, s9, s10] [(.int (-1 : Int32))]))
          exact own_retv X0 Bd.notSynchronized hx Bd.returns rfl (Or.inl ⟨rfl, (by simp), _, rfl⟩) (hb hby d15_120) (by decide) (by decide) (by rw [e0]; exact ⟨(-1 : Int32), rfl, N0, rfl, (Or.inl ⟨rfl, fun j q => hno j (by have := q.1; omega) q⟩)⟩)
        · refine own_via (fun _ => XS.icmpNo X0.here hx rfl (hb hby d15_18) rfl (flt (fun q => hgt ((own_lt (by omega) (by omega)).mp q) : ¬ ((Int32.ofNat M) < (Int32.ofNat i)))).2.2.1) ?_
          show own_Go p e below _ (s₁.setTop (mkF m 21 #[.val (.ref a1), .val (.int N), .val (.ref a2), .val (.int (3 : Int32)), .val (.int (0 : Int32)), .val (.int (64 : Int32)), .val (.int (Int32.ofNat M)), .val (.int (Int32.ofNat i)), s8, s9, s10] []))
          refine own_via (fun _ => XS.aloadN X0.here hx rfl (hb hby d15_21) rfl rfl) ?_
          show own_Go p e below _ (s₁.setTop (mkF m 22 #[.val (.ref a1), .val (.int N), .val (.ref a2), .val (.int (3 : Int32)), .val (.int (0 : Int32)), .val (.int (64 : Int32)), .val (.int (Int32.ofNat M)), .val (.int (Int32.ofNat i)), s8, s9, s10] [(.ref a1)]))
          refine own_via (fun _ => XS.iload X0.here hx rfl (hb hby d15_22) rfl) ?_
          show own_Go p e below _ (s₁.setTop (mkF m 24 #[.val (.ref a1), .val (.int N), .val (.ref a2), .val (.int (3 : Int32)), .val (.int (0 : Int32)), .val (.int (64 : Int32)), .val (.int (Int32.ofNat M)), .val (.int (Int32.ofNat i)), s8, s9, s10] [(.int (Int32.ofNat i)), (.ref a1)]))
          have ib_7 := own_inbs (i := i) S1 (by omega) (by omega)
          refine own_via (X0.baloadBytes hx (j := Int32.ofNat i) (v := .int (bs.getD i 0)) (by rw [e0]; exact Ar1.1) (State.isArrayOf_alike hZ.alike Ar1.2.1) Ar1.2.2 ib_7 (Has.at H1 ib_7 (own_getD (by omega))) (g := (mkF m 24 #[.val (.ref a1), .val (.int N), .val (.ref a2), .val (.int (3 : Int32)), .val (.int (0 : Int32)), .val (.int (64 : Int32)), .val (.int (Int32.ofNat M)), .val (.int (Int32.ofNat i)), s8, s9, s10] [(.int (Int32.ofNat i)), (.ref a1)])) rfl rfl (hb hby d15_24)) ?_
          show own_Go p e below _ (s₁.setTop (mkF m 25 #[.val (.ref a1), .val (.int N), .val (.ref a2), .val (.int (3 : Int32)), .val (.int (0 : Int32)), .val (.int (64 : Int32)), .val (.int (Int32.ofNat M)), .val (.int (Int32.ofNat i)), s8, s9, s10] [(.int (bs.getD i 0))]))
          refine own_via (fun _ => XS.iload X0.here hx rfl (hb hby d15_25) rfl) ?_
          show own_Go p e below _ (s₁.setTop (mkF m 27 #[.val (.ref a1), .val (.int N), .val (.ref a2), .val (.int (3 : Int32)), .val (.int (0 : Int32)), .val (.int (64 : Int32)), .val (.int (Int32.ofNat M)), .val (.int (Int32.ofNat i)), s8, s9, s10] [(.int (64 : Int32)), (.int (bs.getD i 0))]))
          by_cases h64 : (bs.getD i 0) = (64 : Int32)
          · refine own_via (fun _ => XS.icmpYes X0.here hx rfl (pc0 := 27) (pc' := 52) rfl (hb hby d15_27) rfl (teq (h64 : (bs.getD i 0) = (64 : Int32))).1 (by decide) (by decide)) ?_
            show own_Go p e below _ (s₁.setTop (mkF m 52 #[.val (.ref a1), .val (.int N), .val (.ref a2), .val (.int (3 : Int32)), .val (.int (0 : Int32)), .val (.int (64 : Int32)), .val (.int (Int32.ofNat M)), .val (.int (Int32.ofNat i)), s8, s9, s10] []))
            exact k52 i (Nat.le_refl _) (by omega) hno (Or.inr h64)
          · refine own_via (fun _ => XS.icmpNo X0.here hx rfl (hb hby d15_27) rfl (feq (h64 : ¬ ((bs.getD i 0) = (64 : Int32)))).1) ?_
            show own_Go p e below _ (s₁.setTop (mkF m 30 #[.val (.ref a1), .val (.int N), .val (.ref a2), .val (.int (3 : Int32)), .val (.int (0 : Int32)), .val (.int (64 : Int32)), .val (.int (Int32.ofNat M)), .val (.int (Int32.ofNat i)), s8, s9, s10] []))
            refine k30 (M + 1 - i) i (by omega) (Nat.le_refl _) (by omega) (fun j hj => ?_)
            rcases Nat.lt_or_ge j i with hj2 | hj2
            · exact hno j hj2
            · obtain rfl : j = i := by omega
              exact fun q => h64 q.2.1
    rw [hmx]
    exact loop (M + 2) 0 .unset .unset .unset One.u One.u One.u (by omega) (fun j hj => absurd hj (Nat.not_lt_zero j))
theorem own_zero {bs : List Int32} {N : Int32} {j : Nat} (hN : N = Int32.ofNat bs.length) (hl : bs.length ≤ 6) (h0 : N = (0 : Int32)) (q : own_at bs j) : False := by
  rw [hN] at h0
  have := (own_eq (i := bs.length) (j := 0) (by omega) (by decide)).mp h0
  have := q.1
  omega

theorem d14_0 : decode jdk_43_method_24_code 0 = .ok (.aload_n 1, 1) := by decide +kernel
theorem d14_1 : decode jdk_43_method_24_code 1 = .ok (.arraylength, 1) := by decide +kernel
theorem d14_2 : decode jdk_43_method_24_code 2 = .ok (.ifCond .ne 5, 3) := by decide +kernel
theorem d14_5 : decode jdk_43_method_24_code 5 = .ok (.iconst 0, 1) := by decide +kernel
theorem d14_6 : decode jdk_43_method_24_code 6 = .ok (.ireturn, 1) := by decide +kernel
theorem d14_7 : decode jdk_43_method_24_code 7 = .ok (.aload_n 0, 1) := by decide +kernel
theorem d14_8 : decode jdk_43_method_24_code 8 = .ok (.arraylength, 1) := by decide +kernel
theorem d14_9 : decode jdk_43_method_24_code 9 = .ok (.ifCond .ne 5, 3) := by decide +kernel
theorem d14_12 : decode jdk_43_method_24_code 12 = .ok (.iconst (-1), 1) := by decide +kernel
theorem d14_13 : decode jdk_43_method_24_code 13 = .ok (.ireturn, 1) := by decide +kernel
theorem d14_14 : decode jdk_43_method_24_code 14 = .ok (.aload_n 0, 1) := by decide +kernel
theorem d14_15 : decode jdk_43_method_24_code 15 = .ok (.aload_n 0, 1) := by decide +kernel
theorem d14_16 : decode jdk_43_method_24_code 16 = .ok (.arraylength, 1) := by decide +kernel
theorem d14_17 : decode jdk_43_method_24_code 17 = .ok (.aload_n 1, 1) := by decide +kernel
theorem d14_18 : decode jdk_43_method_24_code 18 = .ok (.aload_n 1, 1) := by decide +kernel
theorem d14_19 : decode jdk_43_method_24_code 19 = .ok (.arraylength, 1) := by decide +kernel
theorem d14_20 : decode jdk_43_method_24_code 20 = .ok (.iconst 0, 1) := by decide +kernel
theorem d14_21 : decode jdk_43_method_24_code 21 = .ok (.invokestatic 99, 3) := by decide +kernel
theorem d14_24 : decode jdk_43_method_24_code 24 = .ok (.ireturn, 1) := by decide +kernel
theorem pd_6 : parseMethodDescriptor "([BI[BII)I" = some ⟨[(.array .byte), .int, (.array .byte), .int, .int], some .int⟩ := by decide +kernel
theorem ef_ix2 (m : MethodId) (a1 : Addr) (a2 : Addr) : entryFrame m #[(.ref a1), (.ref a2)] 2 = mkF m 0 #[.val (.ref a1), .val (.ref a2)] [] := by first | (simp [entryFrame, mkF, argsToLocals, Value.category]; done) | rfl
def Qix2 (Z : State) (a1 : Addr) (a2 : Addr) (k1 : ClassId) (k2 : ClassId) (N : Int32) (bs : List Int32) (h0 : Heap) (n0 : Nat) (v : Option Value) (h : Heap) (L : List Loc) : Prop := ∃ z : Int32, v = some (.int z) ∧ Fr n0 L ∧ h = h0 ∧ (own_Ix bs z)
set_option maxRecDepth 65536 in
set_option maxHeartbeats 40000000 in
theorem rmix2 (l : Launch) (Z : State) (a0 : Array Value) (hw : ∀ d ∈ tables_1, d.before a0 Z = true) (ws : List Jvm.Cond) (a1 : Addr) (a2 : Addr) (k1 : ClassId) (k2 : ClassId) (N : Int32) (bs : List Int32) (h0 : Heap) (n0 : Nat) (Z0 : n0 ≤ h0.size) (A1 : Arv Z h0 a1 k1 .byte N (bs.map Value.int) (.int (0 : Int32))) (A2 : Arv Z h0 a2 k2 .byte (3 : Int32) [(.int (64 : Int32)), (.int (45 : Int32)), (.int (64 : Int32))] (.int (0 : Int32))) (hN : N = Int32.ofNat bs.length) (hl : bs.length ≤ 6) :
    MetFree l (⟨"java/lang/StringLatin1", "indexOf", "([B[B)I"⟩ : MethodName) (head1 (Jvm.Cond.code (⟨"java/lang/StringLatin1", "indexOf", "([B[B)I"⟩ : MethodName) jdk_43_method_24_code 2 (some .int) :: ws) ({ frames := 1, cells := 0, slots := 0, locals := 22 } : Room)) (fun a U => a = #[(.ref a1), (.ref a2)] ∧ Z.Warmed39 U.vm ∧ U.heap = h0) (fun _ _ _ _ _ => True) (fun _ U o U' => ∃ v L, o = .returned v ∧ Qix2 Z a1 a2 k1 k2 N bs h0 n0 v U'.heap L ∧ FrameEnd U o U' L ({ frames := 1, cells := 0, slots := 0, locals := 22 } : Room).cells ({ frames := 1, cells := 0, slots := 0, locals := 22 } : Room).slots) := by
  refine MetFree.of_bodySF (plainFor_of_name pn_java_lang_StringLatin1) hisR ?_
  intro p e s m args below meth c s₁ Bd hml0 hP hK
  obtain ⟨rfl, hZ, hH0⟩ := hP
  have hx := Bd.exec
  have hby := Bd.bytes
  have hml : c.maxLocals = 2 := hml0
  have hown : s.vm.findClass "java/lang/StringLatin1" = some m.cls := findClass_of_methodNamed Bd.named
  have hnm := (name_of_methodNamed Bd.named Bd.method).1
  have X0 : Stand p l e ({ frames := 1, cells := 0, slots := 0, locals := 22 } : Room) s m #[(.ref a1), (.ref a2)] below meth c s₁ [] 0 0 := Stand.of_body Bd
  have e0 : s₁.heap = h0 := by rw [← hH0, Bd.state]; rfl
  have N0 := Fr.nil n0
  refine own_cast (ef_ix2 m a1 a2) ?_
  show own_Go p e below (fun o U' => ∃ v L, o = .returned v ∧ Qix2 Z a1 a2 k1 k2 N bs h0 n0 v U'.heap L ∧ FrameEnd s o U' L ({ frames := 1, cells := 0, slots := 0, locals := 22 } : Room).cells ({ frames := 1, cells := 0, slots := 0, locals := 22 } : Room).slots) (s₁.setTop (mkF m 0 #[.val (.ref a1), .val (.ref a2)] []))
  refine own_via (fun _ => XS.aloadN X0.here hx rfl (hb hby d14_0) rfl rfl) ?_
  show own_Go p e below _ (s₁.setTop (mkF m 1 #[.val (.ref a1), .val (.ref a2)] [(.ref a2)]))
  obtain ⟨cl_1, Ar_1, q_1, S_1, M_1, H_1, G_1⟩ := (id A2)
  refine own_via (X0.arraylength hx (by rw [e0]; exact Ar_1.1) (State.isArrayOf_alike hZ.alike Ar_1.2.1) (g := (mkF m 1 #[.val (.ref a1), .val (.ref a2)] [(.ref a2)])) rfl rfl (hb hby d14_1)) ?_
  rw [len_of S_1 M_1]
  show own_Go p e below _ (s₁.setTop (mkF m 2 #[.val (.ref a1), .val (.ref a2)] [(.int (3 : Int32))]))
  refine own_via (fun _ => XS.ifYes X0.here hx rfl (pc0 := 2) (pc' := 7) rfl (hb hby d14_2) rfl ((if0 _ _).trans (feq ((by decide) : ¬ ((3 : Int32) = (0 : Int32)))).2) (by decide) (by decide)) ?_
  show own_Go p e below _ (s₁.setTop (mkF m 7 #[.val (.ref a1), .val (.ref a2)] []))
  refine own_via (fun _ => XS.aloadN X0.here hx rfl (hb hby d14_7) rfl rfl) ?_
  show own_Go p e below _ (s₁.setTop (mkF m 8 #[.val (.ref a1), .val (.ref a2)] [(.ref a1)]))
  obtain ⟨cl_2, Ar_2, q_2, S_2, M_2, H_2, G_2⟩ := (id A1)
  refine own_via (X0.arraylength hx (by rw [e0]; exact Ar_2.1) (State.isArrayOf_alike hZ.alike Ar_2.2.1) (g := (mkF m 8 #[.val (.ref a1), .val (.ref a2)] [(.ref a1)])) rfl rfl (hb hby d14_8)) ?_
  rw [len_of S_2 M_2]
  show own_Go p e below _ (s₁.setTop (mkF m 9 #[.val (.ref a1), .val (.ref a2)] [(.int N)]))
  by_cases hz0 : N = (0 : Int32)
  · refine own_via (fun _ => XS.ifNo X0.here hx rfl (hb hby d14_9) rfl ((if0 _ _).trans (teq (hz0 : N = (0 : Int32))).2)) ?_
    show own_Go p e below _ (s₁.setTop (mkF m 12 #[.val (.ref a1), .val (.ref a2)] []))
    refine own_via (fun _ => XS.iconst X0.here hx rfl (hb hby d14_12)) ?_
    show own_Go p e below _ (s₁.setTop (mkF m 13 #[.val (.ref a1), .val (.ref a2)] [(.int (-1 : Int32))]))
    exact own_retv X0 Bd.notSynchronized hx Bd.returns rfl (Or.inl ⟨rfl, (by simp), _, rfl⟩) (hb hby d14_13) (by decide) (by decide) (by rw [e0]; exact ⟨(-1 : Int32), rfl, N0, rfl, (Or.inl ⟨rfl, fun j q => own_zero hN hl hz0 q⟩)⟩)
  · refine own_via (fun _ => XS.ifYes X0.here hx rfl (pc0 := 9) (pc' := 14) rfl (hb hby d14_9) rfl ((if0 _ _).trans (feq (hz0 : ¬ (N = (0 : Int32)))).2) (by decide) (by decide)) ?_
    show own_Go p e below _ (s₁.setTop (mkF m 14 #[.val (.ref a1), .val (.ref a2)] []))
    refine own_via (fun _ => XS.aloadN X0.here hx rfl (hb hby d14_14) rfl rfl) ?_
    show own_Go p e below _ (s₁.setTop (mkF m 15 #[.val (.ref a1), .val (.ref a2)] [(.ref a1)]))
    refine own_via (fun _ => XS.aloadN X0.here hx rfl (hb hby d14_15) rfl rfl) ?_
    show own_Go p e below _ (s₁.setTop (mkF m 16 #[.val (.ref a1), .val (.ref a2)] [(.ref a1), (.ref a1)]))
    obtain ⟨cl_3, Ar_3, q_3, S_3, M_3, H_3, G_3⟩ := (id A1)
    refine own_via (X0.arraylength hx (by rw [e0]; exact Ar_3.1) (State.isArrayOf_alike hZ.alike Ar_3.2.1) (g := (mkF m 16 #[.val (.ref a1), .val (.ref a2)] [(.ref a1), (.ref a1)])) rfl rfl (hb hby d14_16)) ?_
    rw [len_of S_3 M_3]
    show own_Go p e below _ (s₁.setTop (mkF m 17 #[.val (.ref a1), .val (.ref a2)] [(.int N), (.ref a1)]))
    refine own_via (fun _ => XS.aloadN X0.here hx rfl (hb hby d14_17) rfl rfl) ?_
    show own_Go p e below _ (s₁.setTop (mkF m 18 #[.val (.ref a1), .val (.ref a2)] [(.ref a2), (.int N), (.ref a1)]))
    refine own_via (fun _ => XS.aloadN X0.here hx rfl (hb hby d14_18) rfl rfl) ?_
    show own_Go p e below _ (s₁.setTop (mkF m 19 #[.val (.ref a1), .val (.ref a2)] [(.ref a2), (.ref a2), (.int N), (.ref a1)]))
    obtain ⟨cl_4, Ar_4, q_4, S_4, M_4, H_4, G_4⟩ := (id A2)
    refine own_via (X0.arraylength hx (by rw [e0]; exact Ar_4.1) (State.isArrayOf_alike hZ.alike Ar_4.2.1) (g := (mkF m 19 #[.val (.ref a1), .val (.ref a2)] [(.ref a2), (.ref a2), (.int N), (.ref a1)])) rfl rfl (hb hby d14_19)) ?_
    rw [len_of S_4 M_4]
    show own_Go p e below _ (s₁.setTop (mkF m 20 #[.val (.ref a1), .val (.ref a2)] [(.int (3 : Int32)), (.ref a2), (.int N), (.ref a1)]))
    refine own_via (fun _ => XS.iconst X0.here hx rfl (hb hby d14_20)) ?_
    show own_Go p e below _ (s₁.setTop (mkF m 21 #[.val (.ref a1), .val (.ref a2)] [(.int (0 : Int32)), (.int (3 : Int32)), (.ref a2), (.int N), (.ref a1)]))
    obtain ⟨_, _, ⟨T_5, L_5, k_5, n_5⟩, -, X_5, ⟨Lc_5, hQ_5, l_5, y_5, z_5⟩, st_5⟩ := Jvm.LawKit.callS X0 hx (y := (⟨"java/lang/StringLatin1", "indexOf", "([BI[BII)I"⟩ : MethodName)) hown (mvT hZ (own_w hw 66 rfl)) (mvT hZ (own_w hw 67 rfl)) (mvT hZ (own_w hw 64 rfl)) (mvT hZ (own_w hw 68 rfl)) (by decide) (backOf (W := 0) (rmix5 l Z a0 hw [] a1 a2 k1 k2 N bs h0 n0 Z0 A1 A2 hN hl) hZ (own_w hw 68 rfl) (own_w hw 64 rfl) (by decide) (by decide)) (g := (mkF m 21 #[.val (.ref a1), .val (.ref a2)] [(.int (0 : Int32)), (.int (3 : Int32)), (.ref a2), (.int N), (.ref a1)])) rfl (by rw [hml]; rfl) (argsL := [(.ref a1), (.int N), (.ref a2), (.int (3 : Int32)), (.int (0 : Int32))]) (rest := []) (lenOf pd_6 rfl) rfl (by show 2 * 0 + _ ≤ _; exact Nat.le_of_eq rfl) (hb hby d14_21) (fun _ _ => ⟨rfl, e0, (by decide : 0 + 0 ≤ _), (by decide : 0 + 0 ≤ _)⟩)
    dsimp only [Pt.U, Pt.locs, Pt.cells, Pt.slots] at X_5 l_5 y_5 z_5 st_5 hQ_5
    subst l_5 y_5 z_5
    obtain ⟨i_6, rfl, Nq_5, e_5, q_5_0⟩ := hQ_5
    have N_5 := Fr.app N0 Nq_5
    refine own_via st_5 ?_
    show own_Go p e below _ (T_5.setTop (mkF m 24 #[.val (.ref a1), .val (.ref a2)] [(.int i_6)]))
    exact own_retv X_5 Bd.notSynchronized hx Bd.returns rfl (Or.inl ⟨rfl, (by simp), _, rfl⟩) (hb hby d14_24) (by decide) (by decide) (by rw [e_5]; exact ⟨i_6, rfl, N_5, rfl, q_5_0⟩)
theorem d11_0 : decode jdk_42_method_84_code 0 = .ok (.aload_n 0, 1) := by decide +kernel
theorem d11_1 : decode jdk_42_method_84_code 1 = .ok (.invokevirtual 335, 3) := by decide +kernel
theorem d11_4 : decode jdk_42_method_84_code 4 = .ok (.istore_n 2, 1) := by decide +kernel
theorem d11_5 : decode jdk_42_method_84_code 5 = .ok (.iload_n 2, 1) := by decide +kernel
theorem d11_6 : decode jdk_42_method_84_code 6 = .ok (.aload_n 1, 1) := by decide +kernel
theorem d11_7 : decode jdk_42_method_84_code 7 = .ok (.invokevirtual 335, 3) := by decide +kernel
theorem d11_10 : decode jdk_42_method_84_code 10 = .ok (.if_icmp .ne 36, 3) := by decide +kernel
theorem d11_13 : decode jdk_42_method_84_code 13 = .ok (.aload_n 0, 1) := by decide +kernel
theorem d11_14 : decode jdk_42_method_84_code 14 = .ok (.invokevirtual 492, 3) := by decide +kernel
theorem d11_17 : decode jdk_42_method_84_code 17 = .ok (.ifCond .eq 17, 3) := by decide +kernel
theorem d11_20 : decode jdk_42_method_84_code 20 = .ok (.aload_n 0, 1) := by decide +kernel
theorem d11_21 : decode jdk_42_method_84_code 21 = .ok (.getfield 9, 3) := by decide +kernel
theorem d11_24 : decode jdk_42_method_84_code 24 = .ok (.aload_n 1, 1) := by decide +kernel
theorem d11_25 : decode jdk_42_method_84_code 25 = .ok (.getfield 9, 3) := by decide +kernel
theorem d11_28 : decode jdk_42_method_84_code 28 = .ok (.invokestatic 647, 3) := by decide +kernel
theorem d11_31 : decode jdk_42_method_84_code 31 = .ok (.goto 14, 3) := by decide +kernel
theorem d11_34 : decode jdk_42_method_84_code 34 = .ok (.aload_n 0, 1) := by decide +kernel
theorem d11_35 : decode jdk_42_method_84_code 35 = .ok (.getfield 9, 3) := by decide +kernel
theorem d11_38 : decode jdk_42_method_84_code 38 = .ok (.aload_n 1, 1) := by decide +kernel
theorem d11_39 : decode jdk_42_method_84_code 39 = .ok (.getfield 9, 3) := by decide +kernel
theorem d11_42 : decode jdk_42_method_84_code 42 = .ok (.invokestatic 649, 3) := by decide +kernel
theorem d11_45 : decode jdk_42_method_84_code 45 = .ok (.ireturn, 1) := by decide +kernel
theorem d11_46 : decode jdk_42_method_84_code 46 = .ok (.iload_n 2, 1) := by decide +kernel
theorem d11_47 : decode jdk_42_method_84_code 47 = .ok (.ifCond .ne 5, 3) := by decide +kernel
theorem d11_50 : decode jdk_42_method_84_code 50 = .ok (.iconst (-1), 1) := by decide +kernel
theorem d11_51 : decode jdk_42_method_84_code 51 = .ok (.ireturn, 1) := by decide +kernel
theorem d11_52 : decode jdk_42_method_84_code 52 = .ok (.aload_n 0, 1) := by decide +kernel
theorem d11_53 : decode jdk_42_method_84_code 53 = .ok (.getfield 9, 3) := by decide +kernel
theorem d11_56 : decode jdk_42_method_84_code 56 = .ok (.aload_n 1, 1) := by decide +kernel
theorem d11_57 : decode jdk_42_method_84_code 57 = .ok (.getfield 9, 3) := by decide +kernel
theorem d11_60 : decode jdk_42_method_84_code 60 = .ok (.invokestatic 650, 3) := by decide +kernel
theorem d11_63 : decode jdk_42_method_84_code 63 = .ok (.ireturn, 1) := by decide +kernel
theorem pd_7 : parseMethodDescriptor "()Z" = some ⟨[], some .boolean⟩ := by decide +kernel
theorem pd_8 : parseMethodDescriptor "([B[B)I" = some ⟨[(.array .byte), (.array .byte)], some .int⟩ := by decide +kernel
theorem ef_indexOf (m : MethodId) (a1 : Addr) (a2 : Addr) : entryFrame m #[(.ref a1), (.ref a2)] 3 = mkF m 0 #[.val (.ref a1), .val (.ref a2), .unset] [] := by first | (simp [entryFrame, mkF, argsToLocals, Value.category]; done) | rfl
def QindexOf (Z : State) (a1 : Addr) (a2 : Addr) (t1 : Addr) (t2 : Addr) (k1 : ClassId) (k2 : ClassId) (N : Int32) (bs : List Int32) (cs : Int32) (h0 : Heap) (n0 : Nat) (v : Option Value) (h : Heap) (L : List Loc) : Prop := ∃ z : Int32, v = some (.int z) ∧ Fr n0 L ∧ h = h0 ∧ (own_Ix bs z)
set_option maxRecDepth 65536 in
set_option maxHeartbeats 40000000 in
theorem rmindexOf (l : Launch) (Z : State) (a0 : Array Value) (hw : ∀ d ∈ tables_1, d.before a0 Z = true) (ws : List Jvm.Cond) (a1 : Addr) (a2 : Addr) (t1 : Addr) (t2 : Addr) (k1 : ClassId) (k2 : ClassId) (N : Int32) (bs : List Int32) (cs : Int32) (h0 : Heap) (n0 : Nat) (Z0 : n0 ≤ h0.size) (O0 : Old Z n0 h0) (Scs : Sta Z Z.heap "java/lang/String" "COMPACT_STRINGS" "Z" (.int cs)) (hcs : ¬ (cs = (0 : Int32))) (E1 : Exa Z h0 a1 "java/lang/String") (F1 : Fld Z h0 a1 "java/lang/String" "coder" "B" (.int (0 : Int32))) (F2 : Fld Z h0 a1 "java/lang/String" "value" "[B" (.ref t1)) (E2 : Exa Z h0 a2 "java/lang/String") (G1 : Fld Z h0 a2 "java/lang/String" "coder" "B" (.int (0 : Int32))) (G2 : Fld Z h0 a2 "java/lang/String" "value" "[B" (.ref t2)) (A1 : Arv Z h0 t1 k1 .byte N (bs.map Value.int) (.int (0 : Int32))) (A2 : Arv Z h0 t2 k2 .byte (3 : Int32) [(.int (64 : Int32)), (.int (45 : Int32)), (.int (64 : Int32))] (.int (0 : Int32))) (hN : N = Int32.ofNat bs.length) (hl : bs.length ≤ 6) :
    MetFree l (⟨"java/lang/String", "indexOf", "(Ljava/lang/String;)I"⟩ : MethodName) (head1 (Jvm.Cond.code (⟨"java/lang/String", "indexOf", "(Ljava/lang/String;)I"⟩ : MethodName) jdk_42_method_84_code 3 (some .int) :: ws) ({ frames := 2, cells := 0, slots := 0, locals := 35 } : Room)) (fun a U => a = #[(.ref a1), (.ref a2)] ∧ Z.Warmed39 U.vm ∧ U.heap = h0) (fun _ _ _ _ _ => True) (fun _ U o U' => ∃ v L, o = .returned v ∧ QindexOf Z a1 a2 t1 t2 k1 k2 N bs cs h0 n0 v U'.heap L ∧ FrameEnd U o U' L ({ frames := 2, cells := 0, slots := 0, locals := 35 } : Room).cells ({ frames := 2, cells := 0, slots := 0, locals := 35 } : Room).slots) := by
  refine MetFree.of_bodySF (plainFor_of_name pn_java_lang_String) hisR ?_
  intro p e s m args below meth c s₁ Bd hml0 hP hK
  obtain ⟨rfl, hZ, hH0⟩ := hP
  have hx := Bd.exec
  have hby := Bd.bytes
  have hml : c.maxLocals = 3 := hml0
  have hown : s.vm.findClass "java/lang/String" = some m.cls := findClass_of_methodNamed Bd.named
  have hnm := (name_of_methodNamed Bd.named Bd.method).1
  have X0 : Stand p l e ({ frames := 2, cells := 0, slots := 0, locals := 35 } : Room) s m #[(.ref a1), (.ref a2)] below meth c s₁ [] 0 0 := Stand.of_body Bd
  have e0 : s₁.heap = h0 := by rw [← hH0, Bd.state]; rfl
  have N0 := Fr.nil n0
  refine own_cast (ef_indexOf m a1 a2) ?_
  show own_Go p e below (fun o U' => ∃ v L, o = .returned v ∧ QindexOf Z a1 a2 t1 t2 k1 k2 N bs cs h0 n0 v U'.heap L ∧ FrameEnd s o U' L ({ frames := 2, cells := 0, slots := 0, locals := 35 } : Room).cells ({ frames := 2, cells := 0, slots := 0, locals := 35 } : Room).slots) (s₁.setTop (mkF m 0 #[.val (.ref a1), .val (.ref a2), .unset] []))
  refine own_via (fun _ => XS.aloadN X0.here hx rfl (hb hby d11_0) rfl rfl) ?_
  show own_Go p e below _ (s₁.setTop (mkF m 1 #[.val (.ref a1), .val (.ref a2), .unset] [(.ref a1)]))
  obtain ⟨cq_1, kq_1, q_1a, q_1b, q_1c⟩ := isOf hZ e0 E1
  obtain ⟨_, _, ⟨T_1, L_1, k_1, n_1⟩, -, X_1, ⟨Lc_1, hQ_1, l_1, y_1, z_1⟩, st_1⟩ := X0.virtualBack hx (y := (⟨"java/lang/String", "coder", "()B"⟩ : MethodName)) (z := (⟨"java/lang/String", "coder", "()B"⟩ : MethodName)) hown (mvT hZ (own_w hw 52 rfl)) (mvT hZ (own_w hw 53 rfl)) (notFace_of_selects (args := #[]) (mvT hZ (own_w hw 55 rfl))) (mvT hZ (own_w hw 55 rfl)) (mvT hZ (own_w hw 54 rfl)) (by decide) (backOf (W := 0) (rmcoder l Z a0 hw [] a1 cs h0 n0 Z0 O0 Scs hcs F1) hZ (own_w hw 56 rfl) (own_w hw 10 rfl) (by decide) (by decide)) q_1a q_1c (g := (mkF m 1 #[.val (.ref a1), .val (.ref a2), .unset] [(.ref a1)])) rfl (by rw [hml]; rfl) (Steps.refl _) (argsL := []) (rest := []) (lenOf pd_5 rfl) rfl (by show 2 * 0 + _ ≤ _; exact Nat.le_of_eq rfl) (hb hby d11_1) (fun _ _ => ⟨rfl, e0, (by decide : 0 + 0 ≤ _), (by decide : 0 + 0 ≤ _)⟩)
  dsimp only [Pt.U, Pt.locs, Pt.cells, Pt.slots] at X_1 l_1 y_1 z_1 st_1 hQ_1
  subst l_1 y_1 z_1
  obtain ⟨rfl, Nq_1, e_1⟩ := hQ_1
  have N_1 := Fr.app N0 Nq_1
  refine own_via (fun _ k => st_1.trans k) ?_
  show own_Go p e below _ (T_1.setTop (mkF m 4 #[.val (.ref a1), .val (.ref a2), .unset] [(.int (0 : Int32))]))
  refine own_via (fun _ => XS.istoreN X_1.here hx rfl (hb hby d11_4) rfl (l' := #[.val (.ref a1), .val (.ref a2), .val (.int (0 : Int32))]) rfl) ?_
  show own_Go p e below _ (T_1.setTop (mkF m 5 #[.val (.ref a1), .val (.ref a2), .val (.int (0 : Int32))] []))
  refine own_via (fun _ => XS.iloadN X_1.here hx rfl (hb hby d11_5) rfl) ?_
  show own_Go p e below _ (T_1.setTop (mkF m 6 #[.val (.ref a1), .val (.ref a2), .val (.int (0 : Int32))] [(.int (0 : Int32))]))
  refine own_via (fun _ => XS.aloadN X_1.here hx rfl (hb hby d11_6) rfl rfl) ?_
  show own_Go p e below _ (T_1.setTop (mkF m 7 #[.val (.ref a1), .val (.ref a2), .val (.int (0 : Int32))] [(.ref a2), (.int (0 : Int32))]))
  obtain ⟨cq_2, kq_2, q_2a, q_2b, q_2c⟩ := isOf hZ e_1 E2
  obtain ⟨_, _, ⟨T_2, L_2, k_2, n_2⟩, -, X_2, ⟨Lc_2, hQ_2, l_2, y_2, z_2⟩, st_2⟩ := X_1.virtualBack hx (y := (⟨"java/lang/String", "coder", "()B"⟩ : MethodName)) (z := (⟨"java/lang/String", "coder", "()B"⟩ : MethodName)) hown (mvT hZ (own_w hw 52 rfl)) (mvT hZ (own_w hw 53 rfl)) (notFace_of_selects (args := #[]) (mvT hZ (own_w hw 55 rfl))) (mvT hZ (own_w hw 55 rfl)) (mvT hZ (own_w hw 54 rfl)) (by decide) (backOf (W := 1) (rmcoder l Z a0 hw [] a2 cs h0 n0 Z0 O0 Scs hcs G1) hZ (own_w hw 56 rfl) (own_w hw 10 rfl) (by decide) (by decide)) q_2a q_2c (g := (mkF m 7 #[.val (.ref a1), .val (.ref a2), .val (.int (0 : Int32))] [(.ref a2), (.int (0 : Int32))])) rfl (by rw [hml]; rfl) (Steps.refl _) (argsL := []) (rest := [(.int (0 : Int32))]) (lenOf pd_5 rfl) rfl (by show 2 * 0 + _ ≤ _; exact Nat.le_of_eq rfl) (hb hby d11_7) (fun _ _ => ⟨rfl, e_1, (by decide : 0 + 0 ≤ _), (by decide : 0 + 0 ≤ _)⟩)
  dsimp only [Pt.U, Pt.locs, Pt.cells, Pt.slots] at X_2 l_2 y_2 z_2 st_2 hQ_2
  subst l_2 y_2 z_2
  obtain ⟨rfl, Nq_2, e_2⟩ := hQ_2
  have N_2 := Fr.app N_1 Nq_2
  refine own_via (fun _ k => st_2.trans k) ?_
  show own_Go p e below _ (T_2.setTop (mkF m 10 #[.val (.ref a1), .val (.ref a2), .val (.int (0 : Int32))] [(.int (0 : Int32)), (.int (0 : Int32))]))
  refine own_via (fun _ => XS.icmpNo X_2.here hx rfl (hb hby d11_10) rfl (teq ((by decide) : (0 : Int32) = (0 : Int32))).2) ?_
  show own_Go p e below _ (T_2.setTop (mkF m 13 #[.val (.ref a1), .val (.ref a2), .val (.int (0 : Int32))] []))
  refine own_via (fun _ => XS.aloadN X_2.here hx rfl (hb hby d11_13) rfl rfl) ?_
  show own_Go p e below _ (T_2.setTop (mkF m 14 #[.val (.ref a1), .val (.ref a2), .val (.int (0 : Int32))] [(.ref a1)]))
  obtain ⟨cq_3, kq_3, q_3a, q_3b, q_3c⟩ := isOf hZ e_2 E1
  obtain ⟨_, _, ⟨T_3, L_3, k_3, n_3⟩, -, X_3, ⟨Lc_3, hQ_3, l_3, y_3, z_3⟩, st_3⟩ := X_2.virtualBack hx (y := (⟨"java/lang/String", "isLatin1", "()Z"⟩ : MethodName)) (z := (⟨"java/lang/String", "isLatin1", "()Z"⟩ : MethodName)) hown (mvT hZ (own_w hw 57 rfl)) (mvT hZ (own_w hw 58 rfl)) (notFace_of_selects (args := #[]) (mvT hZ (own_w hw 60 rfl))) (mvT hZ (own_w hw 60 rfl)) (mvT hZ (own_w hw 59 rfl)) (by decide) (backOf (W := 0) (rmisLatin1 l Z a0 hw [] a1 cs h0 n0 Z0 O0 Scs hcs F1) hZ (own_w hw 61 rfl) (own_w hw 10 rfl) (by decide) (by decide)) q_3a q_3c (g := (mkF m 14 #[.val (.ref a1), .val (.ref a2), .val (.int (0 : Int32))] [(.ref a1)])) rfl (by rw [hml]; rfl) (Steps.refl _) (argsL := []) (rest := []) (lenOf pd_7 rfl) rfl (by show 2 * 0 + _ ≤ _; exact Nat.le_of_eq rfl) (hb hby d11_14) (fun _ _ => ⟨rfl, e_2, (by decide : 0 + 0 ≤ _), (by decide : 0 + 0 ≤ _)⟩)
  dsimp only [Pt.U, Pt.locs, Pt.cells, Pt.slots] at X_3 l_3 y_3 z_3 st_3 hQ_3
  subst l_3 y_3 z_3
  obtain ⟨rfl, Nq_3, e_3⟩ := hQ_3
  have N_3 := Fr.app N_2 Nq_3
  refine own_via (fun _ k => st_3.trans k) ?_
  show own_Go p e below _ (T_3.setTop (mkF m 17 #[.val (.ref a1), .val (.ref a2), .val (.int (0 : Int32))] [(.int (1 : Int32))]))
  refine own_via (fun _ => XS.ifNo X_3.here hx rfl (hb hby d11_17) rfl ((if0 _ _).trans (feq ((by decide) : ¬ ((1 : Int32) = (0 : Int32)))).1)) ?_
  show own_Go p e below _ (T_3.setTop (mkF m 20 #[.val (.ref a1), .val (.ref a2), .val (.int (0 : Int32))] []))
  refine own_via (fun _ => XS.aloadN X_3.here hx rfl (hb hby d11_20) rfl rfl) ?_
  show own_Go p e below _ (T_3.setTop (mkF m 21 #[.val (.ref a1), .val (.ref a2), .val (.int (0 : Int32))] [(.ref a1)]))
  obtain ⟨T_4, X_4, e_4, st_4⟩ := getF X_3 hx hZ hown (host := "") (Or.inl (own_w hw 35 rfl)) Via.refl e_3 F2 (g := (mkF m 21 #[.val (.ref a1), .val (.ref a2), .val (.int (0 : Int32))] [(.ref a1)])) rfl rfl (hb hby d11_21)
  refine own_via st_4 ?_
  show own_Go p e below _ (T_4.setTop (mkF m 24 #[.val (.ref a1), .val (.ref a2), .val (.int (0 : Int32))] [(.ref t1)]))
  refine own_via (fun _ => XS.aloadN X_4.here hx rfl (hb hby d11_24) rfl rfl) ?_
  show own_Go p e below _ (T_4.setTop (mkF m 25 #[.val (.ref a1), .val (.ref a2), .val (.int (0 : Int32))] [(.ref a2), (.ref t1)]))
  obtain ⟨T_5, X_5, e_5, st_5⟩ := getF X_4 hx hZ hown (host := "") (Or.inl (own_w hw 35 rfl)) Via.refl e_4 G2 (g := (mkF m 25 #[.val (.ref a1), .val (.ref a2), .val (.int (0 : Int32))] [(.ref a2), (.ref t1)])) rfl rfl (hb hby d11_25)
  refine own_via st_5 ?_
  show own_Go p e below _ (T_5.setTop (mkF m 28 #[.val (.ref a1), .val (.ref a2), .val (.int (0 : Int32))] [(.ref t2), (.ref t1)]))
  obtain ⟨_, _, ⟨T_6, L_6, k_6, n_6⟩, -, X_6, ⟨Lc_6, hQ_6, l_6, y_6, z_6⟩, st_6⟩ := Jvm.LawKit.callS X_5 hx (y := (⟨"java/lang/StringLatin1", "indexOf", "([B[B)I"⟩ : MethodName)) hown (mvT hZ (own_w hw 62 rfl)) (mvT hZ (own_w hw 63 rfl)) (mvT hZ (own_w hw 64 rfl)) (mvT hZ (own_w hw 65 rfl)) (by decide) (backOf (W := 0) (rmix2 l Z a0 hw [] t1 t2 k1 k2 N bs h0 n0 Z0 A1 A2 hN hl) hZ (own_w hw 65 rfl) (own_w hw 64 rfl) (by decide) (by decide)) (g := (mkF m 28 #[.val (.ref a1), .val (.ref a2), .val (.int (0 : Int32))] [(.ref t2), (.ref t1)])) rfl (by rw [hml]; rfl) (argsL := [(.ref t1), (.ref t2)]) (rest := []) (lenOf pd_8 rfl) rfl (by show 2 * 0 + _ ≤ _; exact Nat.le_of_eq rfl) (hb hby d11_28) (fun _ _ => ⟨rfl, e_5, (by decide : 0 + 0 ≤ _), (by decide : 0 + 0 ≤ _)⟩)
  dsimp only [Pt.U, Pt.locs, Pt.cells, Pt.slots] at X_6 l_6 y_6 z_6 st_6 hQ_6
  subst l_6 y_6 z_6
  obtain ⟨i_7, rfl, Nq_6, e_6, q_6_0⟩ := hQ_6
  have N_6 := Fr.app N_3 Nq_6
  refine own_via st_6 ?_
  show own_Go p e below _ (T_6.setTop (mkF m 31 #[.val (.ref a1), .val (.ref a2), .val (.int (0 : Int32))] [(.int i_7)]))
  refine own_via (fun _ => XS.goto X_6.here hx rfl (pc0 := 31) (pc' := 45) rfl (hb hby d11_31) (by decide) (by decide)) ?_
  show own_Go p e below _ (T_6.setTop (mkF m 45 #[.val (.ref a1), .val (.ref a2), .val (.int (0 : Int32))] [(.int i_7)]))
  exact own_retv X_6 Bd.notSynchronized hx Bd.returns rfl (Or.inl ⟨rfl, (by simp), _, rfl⟩) (hb hby d11_45) (by decide) (by decide) (by rw [e_6]; exact ⟨i_7, rfl, N_6, rfl, q_6_0⟩)
theorem d21_0 : decode jdk_41_method_12_code 0 = .ok (.iload_n 0, 1) := by decide +kernel
theorem d21_1 : decode jdk_41_method_12_code 1 = .ok (.ifCond .lt 13, 3) := by decide +kernel
theorem d21_4 : decode jdk_41_method_12_code 4 = .ok (.iload_n 0, 1) := by decide +kernel
theorem d21_5 : decode jdk_41_method_12_code 5 = .ok (.iload_n 1, 1) := by decide +kernel
theorem d21_6 : decode jdk_41_method_12_code 6 = .ok (.if_icmp .gt 8, 3) := by decide +kernel
theorem d21_9 : decode jdk_41_method_12_code 9 = .ok (.iload_n 1, 1) := by decide +kernel
theorem d21_10 : decode jdk_41_method_12_code 10 = .ok (.iload_n 2, 1) := by decide +kernel
theorem d21_11 : decode jdk_41_method_12_code 11 = .ok (.if_icmp .le 11, 3) := by decide +kernel
theorem d21_14 : decode jdk_41_method_12_code 14 = .ok (.aload_n 3, 1) := by decide +kernel
theorem d21_15 : decode jdk_41_method_12_code 15 = .ok (.iload_n 0, 1) := by decide +kernel
theorem d21_16 : decode jdk_41_method_12_code 16 = .ok (.iload_n 1, 1) := by decide +kernel
theorem d21_17 : decode jdk_41_method_12_code 17 = .ok (.iload_n 2, 1) := by decide +kernel
theorem d21_18 : decode jdk_41_method_12_code 18 = .ok (.invokestatic 99, 3) := by decide +kernel
theorem d21_21 : decode jdk_41_method_12_code 21 = .ok (.athrow, 1) := by decide +kernel
theorem d21_22 : decode jdk_41_method_12_code 22 = .ok (.iload_n 0, 1) := by decide +kernel
theorem d21_23 : decode jdk_41_method_12_code 23 = .ok (.ireturn, 1) := by decide +kernel
theorem pn_jdk_internal_util_Preconditions : plainName "jdk/internal/util/Preconditions" = true := by first | (simp [plainName, overriddenIn]; done) | decide +kernel
theorem ef_cfti (m : MethodId) (p2 : Int32) (p3 : Int32) (sf : Value) (hrsf : sf.isRef = true) : entryFrame m #[(.int (0 : Int32)), (.int p2), (.int p3), sf] 4 = mkF m 0 #[.val (.int (0 : Int32)), .val (.int p2), .val (.int p3), .val sf] [] := by rcases ref_cases hrsf with rfl | ⟨ysf, rfl⟩ <;>  first | (simp [entryFrame, mkF, argsToLocals, Value.category]; done) | rfl
def Qcfti (Z : State) (p2 : Int32) (p3 : Int32) (sf : Value) (h0 : Heap) (n0 : Nat) (v : Option Value) (h : Heap) (L : List Loc) : Prop := v = some (.int (0 : Int32)) ∧ Fr n0 L ∧ h = h0
set_option maxRecDepth 65536 in
set_option maxHeartbeats 40000000 in
theorem rmcfti (l : Launch) (Z : State) (a0 : Array Value) (hw : ∀ d ∈ tables_1, d.before a0 Z = true) (ws : List Jvm.Cond) (p2 : Int32) (p3 : Int32) (sf : Value) (h0 : Heap) (n0 : Nat) (Z0 : n0 ≤ h0.size) (hsf : sf.isRef = true) (h1 : ¬ (p2 < (0 : Int32))) (h2 : ¬ (p3 < p2)) :
    MetFree l (⟨"jdk/internal/util/Preconditions", "checkFromToIndex", "(IIILjava/util/function/BiFunction;)I"⟩ : MethodName) (head1 (Jvm.Cond.code (⟨"jdk/internal/util/Preconditions", "checkFromToIndex", "(IIILjava/util/function/BiFunction;)I"⟩ : MethodName) jdk_41_method_12_code 4 (some .int) :: ws) ({ frames := 0, cells := 0, slots := 0, locals := 0 } : Room)) (fun a U => a = #[(.int (0 : Int32)), (.int p2), (.int p3), sf] ∧ Z.Warmed39 U.vm ∧ U.heap = h0) (fun _ _ _ _ _ => True) (fun _ U o U' => ∃ v L, o = .returned v ∧ Qcfti Z p2 p3 sf h0 n0 v U'.heap L ∧ FrameEnd U o U' L ({ frames := 0, cells := 0, slots := 0, locals := 0 } : Room).cells ({ frames := 0, cells := 0, slots := 0, locals := 0 } : Room).slots) := by
  refine MetFree.of_bodySF (plainFor_of_name pn_jdk_internal_util_Preconditions) hisR ?_
  intro p e s m args below meth c s₁ Bd hml0 hP hK
  obtain ⟨rfl, hZ, hH0⟩ := hP
  have hx := Bd.exec
  have hby := Bd.bytes
  have hml : c.maxLocals = 4 := hml0
  have hown : s.vm.findClass "jdk/internal/util/Preconditions" = some m.cls := findClass_of_methodNamed Bd.named
  have hnm := (name_of_methodNamed Bd.named Bd.method).1
  have X0 : Stand p l e ({ frames := 0, cells := 0, slots := 0, locals := 0 } : Room) s m #[(.int (0 : Int32)), (.int p2), (.int p3), sf] below meth c s₁ [] 0 0 := Stand.of_body Bd
  have e0 : s₁.heap = h0 := by rw [← hH0, Bd.state]; rfl
  have N0 := Fr.nil n0
  refine own_cast (ef_cfti m p2 p3 sf hsf) ?_
  show own_Go p e below (fun o U' => ∃ v L, o = .returned v ∧ Qcfti Z p2 p3 sf h0 n0 v U'.heap L ∧ FrameEnd s o U' L ({ frames := 0, cells := 0, slots := 0, locals := 0 } : Room).cells ({ frames := 0, cells := 0, slots := 0, locals := 0 } : Room).slots) (s₁.setTop (mkF m 0 #[.val (.int (0 : Int32)), .val (.int p2), .val (.int p3), .val sf] []))
  refine own_via (fun _ => XS.iloadN X0.here hx rfl (hb hby d21_0) rfl) ?_
  show own_Go p e below _ (s₁.setTop (mkF m 1 #[.val (.int (0 : Int32)), .val (.int p2), .val (.int p3), .val sf] [(.int (0 : Int32))]))
  refine own_via (fun _ => XS.ifNo X0.here hx rfl (hb hby d21_1) rfl ((if0 _ _).trans (flt ((by decide) : ¬ ((0 : Int32) < (0 : Int32)))).1)) ?_
  show own_Go p e below _ (s₁.setTop (mkF m 4 #[.val (.int (0 : Int32)), .val (.int p2), .val (.int p3), .val sf] []))
  refine own_via (fun _ => XS.iloadN X0.here hx rfl (hb hby d21_4) rfl) ?_
  show own_Go p e below _ (s₁.setTop (mkF m 5 #[.val (.int (0 : Int32)), .val (.int p2), .val (.int p3), .val sf] [(.int (0 : Int32))]))
  refine own_via (fun _ => XS.iloadN X0.here hx rfl (hb hby d21_5) rfl) ?_
  show own_Go p e below _ (s₁.setTop (mkF m 6 #[.val (.int (0 : Int32)), .val (.int p2), .val (.int p3), .val sf] [(.int p2), (.int (0 : Int32))]))
  refine own_via (fun _ => XS.icmpNo X0.here hx rfl (hb hby d21_6) rfl (flt (h1 : ¬ (p2 < (0 : Int32)))).2.2.1) ?_
  show own_Go p e below _ (s₁.setTop (mkF m 9 #[.val (.int (0 : Int32)), .val (.int p2), .val (.int p3), .val sf] []))
  refine own_via (fun _ => XS.iloadN X0.here hx rfl (hb hby d21_9) rfl) ?_
  show own_Go p e below _ (s₁.setTop (mkF m 10 #[.val (.int (0 : Int32)), .val (.int p2), .val (.int p3), .val sf] [(.int p2)]))
  refine own_via (fun _ => XS.iloadN X0.here hx rfl (hb hby d21_10) rfl) ?_
  show own_Go p e below _ (s₁.setTop (mkF m 11 #[.val (.int (0 : Int32)), .val (.int p2), .val (.int p3), .val sf] [(.int p3), (.int p2)]))
  refine own_via (fun _ => XS.icmpYes X0.here hx rfl (pc0 := 11) (pc' := 22) rfl (hb hby d21_11) rfl (flt (h2 : ¬ (p3 < p2))).2.2.2 (by decide) (by decide)) ?_
  show own_Go p e below _ (s₁.setTop (mkF m 22 #[.val (.int (0 : Int32)), .val (.int p2), .val (.int p3), .val sf] []))
  refine own_via (fun _ => XS.iloadN X0.here hx rfl (hb hby d21_22) rfl) ?_
  show own_Go p e below _ (s₁.setTop (mkF m 23 #[.val (.int (0 : Int32)), .val (.int p2), .val (.int p3), .val sf] [(.int (0 : Int32))]))
  exact own_retv X0 Bd.notSynchronized hx Bd.returns rfl (Or.inl ⟨rfl, (by simp), _, rfl⟩) (hb hby d21_23) (by decide) (by decide) (by rw [e0]; exact ⟨rfl, N0, rfl⟩)
theorem d20_0 : decode jdk_42_method_158_code 0 = .ok (.iload_n 0, 1) := by decide +kernel
theorem d20_1 : decode jdk_42_method_158_code 1 = .ok (.iload_n 1, 1) := by decide +kernel
theorem d20_2 : decode jdk_42_method_158_code 2 = .ok (.iload_n 2, 1) := by decide +kernel
theorem d20_3 : decode jdk_42_method_158_code 3 = .ok (.getstatic 1053, 3) := by decide +kernel
theorem d20_6 : decode jdk_42_method_158_code 6 = .ok (.invokestatic 1062, 3) := by decide +kernel
theorem d20_9 : decode jdk_42_method_158_code 9 = .ok (.pop, 1) := by decide +kernel
theorem d20_10 : decode jdk_42_method_158_code 10 = .ok (.return_, 1) := by decide +kernel
theorem pd_9 : parseMethodDescriptor "(IIILjava/util/function/BiFunction;)I" = some ⟨[.int, .int, .int, (.object "java/util/function/BiFunction")], some .int⟩ := by decide +kernel
theorem ef_cbbe (m : MethodId) (p2 : Int32) (p3 : Int32) : entryFrame m #[(.int (0 : Int32)), (.int p2), (.int p3)] 3 = mkF m 0 #[.val (.int (0 : Int32)), .val (.int p2), .val (.int p3)] [] := by first | (simp [entryFrame, mkF, argsToLocals, Value.category]; done) | rfl
def Qcbbe (Z : State) (p2 : Int32) (p3 : Int32) (sf : Value) (h0 : Heap) (n0 : Nat) (v : Option Value) (h : Heap) (L : List Loc) : Prop := v = none ∧ Fr n0 L ∧ h = h0
set_option maxRecDepth 65536 in
set_option maxHeartbeats 40000000 in
theorem rmcbbe (l : Launch) (Z : State) (a0 : Array Value) (hw : ∀ d ∈ tables_1, d.before a0 Z = true) (ws : List Jvm.Cond) (p2 : Int32) (p3 : Int32) (sf : Value) (h0 : Heap) (n0 : Nat) (Z0 : n0 ≤ h0.size) (O0 : Old Z n0 h0) (Ssf : Sta Z Z.heap "jdk/internal/util/Preconditions" "SIOOBE_FORMATTER" "Ljava/util/function/BiFunction;" sf) (hsf : sf.isRef = true) (h1 : ¬ (p2 < (0 : Int32))) (h2 : ¬ (p3 < p2)) :
    MetFree l (⟨"java/lang/String", "checkBoundsBeginEnd", "(III)V"⟩ : MethodName) (head1 (Jvm.Cond.code (⟨"java/lang/String", "checkBoundsBeginEnd", "(III)V"⟩ : MethodName) jdk_42_method_158_code 3 none :: ws) ({ frames := 1, cells := 0, slots := 0, locals := 15 } : Room)) (fun a U => a = #[(.int (0 : Int32)), (.int p2), (.int p3)] ∧ Z.Warmed39 U.vm ∧ U.heap = h0) (fun _ _ _ _ _ => True) (fun _ U o U' => ∃ v L, o = .returned v ∧ Qcbbe Z p2 p3 sf h0 n0 v U'.heap L ∧ FrameEnd U o U' L ({ frames := 1, cells := 0, slots := 0, locals := 15 } : Room).cells ({ frames := 1, cells := 0, slots := 0, locals := 15 } : Room).slots) := by
  refine MetFree.of_bodySF (plainFor_of_name pn_java_lang_String) hisR ?_
  intro p e s m args below meth c s₁ Bd hml0 hP hK
  obtain ⟨rfl, hZ, hH0⟩ := hP
  have hx := Bd.exec
  have hby := Bd.bytes
  have hml : c.maxLocals = 3 := hml0
  have hown : s.vm.findClass "java/lang/String" = some m.cls := findClass_of_methodNamed Bd.named
  have hnm := (name_of_methodNamed Bd.named Bd.method).1
  have X0 : Stand p l e ({ frames := 1, cells := 0, slots := 0, locals := 15 } : Room) s m #[(.int (0 : Int32)), (.int p2), (.int p3)] below meth c s₁ [] 0 0 := Stand.of_body Bd
  have e0 : s₁.heap = h0 := by rw [← hH0, Bd.state]; rfl
  have N0 := Fr.nil n0
  refine own_cast (ef_cbbe m p2 p3) ?_
  show own_Go p e below (fun o U' => ∃ v L, o = .returned v ∧ Qcbbe Z p2 p3 sf h0 n0 v U'.heap L ∧ FrameEnd s o U' L ({ frames := 1, cells := 0, slots := 0, locals := 15 } : Room).cells ({ frames := 1, cells := 0, slots := 0, locals := 15 } : Room).slots) (s₁.setTop (mkF m 0 #[.val (.int (0 : Int32)), .val (.int p2), .val (.int p3)] []))
  refine own_via (fun _ => XS.iloadN X0.here hx rfl (hb hby d20_0) rfl) ?_
  show own_Go p e below _ (s₁.setTop (mkF m 1 #[.val (.int (0 : Int32)), .val (.int p2), .val (.int p3)] [(.int (0 : Int32))]))
  refine own_via (fun _ => XS.iloadN X0.here hx rfl (hb hby d20_1) rfl) ?_
  show own_Go p e below _ (s₁.setTop (mkF m 2 #[.val (.int (0 : Int32)), .val (.int p2), .val (.int p3)] [(.int p2), (.int (0 : Int32))]))
  refine own_via (fun _ => XS.iloadN X0.here hx rfl (hb hby d20_2) rfl) ?_
  show own_Go p e below _ (s₁.setTop (mkF m 3 #[.val (.int (0 : Int32)), .val (.int p2), .val (.int p3)] [(.int p3), (.int p2), (.int (0 : Int32))]))
  obtain ⟨T_1, X_1, e_1, st_1⟩ := getS2 X0 hx hZ hown (host := "") (Or.inl (own_w hw 92 rfl)) Via.refl e0 (Ssf.ext O0.2) (g := (mkF m 3 #[.val (.int (0 : Int32)), .val (.int p2), .val (.int p3)] [(.int p3), (.int p2), (.int (0 : Int32))])) rfl (hb hby d20_3)
  refine own_via st_1 ?_
  show own_Go p e below _ (T_1.setTop (mkF m 6 #[.val (.int (0 : Int32)), .val (.int p2), .val (.int p3)] [sf, (.int p3), (.int p2), (.int (0 : Int32))]))
  obtain ⟨_, _, ⟨T_2, L_2, k_2, n_2⟩, -, X_2, ⟨Lc_2, hQ_2, l_2, y_2, z_2⟩, st_2⟩ := Jvm.LawKit.callS X_1 hx (y := (⟨"jdk/internal/util/Preconditions", "checkFromToIndex", "(IIILjava/util/function/BiFunction;)I"⟩ : MethodName)) hown (mvT hZ (own_w hw 94 rfl)) (mvT hZ (own_w hw 95 rfl)) (mvT hZ (own_w hw 93 rfl)) (mvT hZ (own_w hw 96 rfl)) (by decide) (backOf (W := 0) (rmcfti l Z a0 hw [] p2 p3 sf h0 n0 Z0 hsf h1 h2) hZ (own_w hw 96 rfl) (own_w hw 93 rfl) (by decide) (by decide)) (g := (mkF m 6 #[.val (.int (0 : Int32)), .val (.int p2), .val (.int p3)] [sf, (.int p3), (.int p2), (.int (0 : Int32))])) rfl (by rw [hml]; rfl) (argsL := [(.int (0 : Int32)), (.int p2), (.int p3), sf]) (rest := []) (lenOf pd_9 rfl) rfl (by show 2 * 0 + _ ≤ _; exact Nat.le_of_eq rfl) (hb hby d20_6) (fun _ _ => ⟨rfl, e_1, (by decide : 0 + 0 ≤ _), (by decide : 0 + 0 ≤ _)⟩)
  dsimp only [Pt.U, Pt.locs, Pt.cells, Pt.slots] at X_2 l_2 y_2 z_2 st_2 hQ_2
  subst l_2 y_2 z_2
  obtain ⟨rfl, Nq_2, e_2⟩ := hQ_2
  have N_2 := Fr.app N0 Nq_2
  refine own_via st_2 ?_
  show own_Go p e below _ (T_2.setTop (mkF m 9 #[.val (.int (0 : Int32)), .val (.int p2), .val (.int p3)] [(.int (0 : Int32))]))
  refine own_via (fun _ => XS.pop X_2.here hx rfl (hb hby d20_9) rfl rfl) ?_
  show own_Go p e below _ (T_2.setTop (mkF m 10 #[.val (.int (0 : Int32)), .val (.int p2), .val (.int p3)] []))
  exact own_ret0 X_2 Bd.notSynchronized hx Bd.returns (hb hby d20_10) (by decide) (by decide) (by rw [e_2]; exact ⟨rfl, N_2, rfl⟩)
theorem d25_0 : decode jdk_65_method_131_code 0 = .ok (.iload_n 1, 1) := by decide +kernel
theorem d25_1 : decode jdk_65_method_131_code 1 = .ok (.iload_n 0, 1) := by decide +kernel
theorem d25_2 : decode jdk_65_method_131_code 2 = .ok (.if_icmp .ge 35, 3) := by decide +kernel
theorem d25_5 : decode jdk_65_method_131_code 5 = .ok (.new 43, 3) := by decide +kernel
theorem d25_8 : decode jdk_65_method_131_code 8 = .ok (.dup, 1) := by decide +kernel
theorem d25_9 : decode jdk_65_method_131_code 9 = .ok (.new 45, 3) := by decide +kernel
theorem d25_12 : decode jdk_65_method_131_code 12 = .ok (.dup, 1) := by decide +kernel
theorem d25_13 : decode jdk_65_method_131_code 13 = .ok (.invokespecial 47, 3) := by decide +kernel
theorem d25_16 : decode jdk_65_method_131_code 16 = .ok (.iload_n 0, 1) := by decide +kernel
theorem d25_17 : decode jdk_65_method_131_code 17 = .ok (.invokevirtual 54, 3) := by decide +kernel
theorem d25_20 : decode jdk_65_method_131_code 20 = .ok (.ldc_w 337, 3) := by decide +kernel
theorem d25_23 : decode jdk_65_method_131_code 23 = .ok (.invokevirtual 50, 3) := by decide +kernel
theorem d25_26 : decode jdk_65_method_131_code 26 = .ok (.iload_n 1, 1) := by decide +kernel
theorem d25_27 : decode jdk_65_method_131_code 27 = .ok (.invokevirtual 54, 3) := by decide +kernel
theorem d25_30 : decode jdk_65_method_131_code 30 = .ok (.invokevirtual 61, 3) := by decide +kernel
theorem d25_33 : decode jdk_65_method_131_code 33 = .ok (.invokespecial 65, 3) := by decide +kernel
theorem d25_36 : decode jdk_65_method_131_code 36 = .ok (.athrow, 1) := by decide +kernel
theorem d25_37 : decode jdk_65_method_131_code 37 = .ok (.return_, 1) := by decide +kernel
theorem pn_java_util_Arrays : plainName "java/util/Arrays" = true := by first | (simp [plainName, overriddenIn]; done) | decide +kernel
theorem ef_ckl (m : MethodId) (p2 : Int32) : entryFrame m #[(.int (0 : Int32)), (.int p2)] 2 = mkF m 0 #[.val (.int (0 : Int32)), .val (.int p2)] [] := by first | (simp [entryFrame, mkF, argsToLocals, Value.category]; done) | rfl
def Qckl (Z : State) (p2 : Int32) (h0 : Heap) (n0 : Nat) (v : Option Value) (h : Heap) (L : List Loc) : Prop := v = none ∧ Fr n0 L ∧ h = h0
set_option maxRecDepth 65536 in
set_option maxHeartbeats 40000000 in
theorem rmckl (l : Launch) (Z : State) (a0 : Array Value) (hw : ∀ d ∈ tables_1, d.before a0 Z = true) (ws : List Jvm.Cond) (p2 : Int32) (h0 : Heap) (n0 : Nat) (Z0 : n0 ≤ h0.size) (h1 : ¬ (p2 < (0 : Int32))) :
    MetFree l (⟨"java/util/Arrays", "checkLength", "(II)V"⟩ : MethodName) (head1 (Jvm.Cond.code (⟨"java/util/Arrays", "checkLength", "(II)V"⟩ : MethodName) jdk_65_method_131_code 2 none :: ws) ({ frames := 0, cells := 0, slots := 0, locals := 0 } : Room)) (fun a U => a = #[(.int (0 : Int32)), (.int p2)] ∧ Z.Warmed39 U.vm ∧ U.heap = h0) (fun _ _ _ _ _ => True) (fun _ U o U' => ∃ v L, o = .returned v ∧ Qckl Z p2 h0 n0 v U'.heap L ∧ FrameEnd U o U' L ({ frames := 0, cells := 0, slots := 0, locals := 0 } : Room).cells ({ frames := 0, cells := 0, slots := 0, locals := 0 } : Room).slots) := by
  refine MetFree.of_bodySF (plainFor_of_name pn_java_util_Arrays) hisR ?_
  intro p e s m args below meth c s₁ Bd hml0 hP hK
  obtain ⟨rfl, hZ, hH0⟩ := hP
  have hx := Bd.exec
  have hby := Bd.bytes
  have hml : c.maxLocals = 2 := hml0
  have hown : s.vm.findClass "java/util/Arrays" = some m.cls := findClass_of_methodNamed Bd.named
  have hnm := (name_of_methodNamed Bd.named Bd.method).1
  have X0 : Stand p l e ({ frames := 0, cells := 0, slots := 0, locals := 0 } : Room) s m #[(.int (0 : Int32)), (.int p2)] below meth c s₁ [] 0 0 := Stand.of_body Bd
  have e0 : s₁.heap = h0 := by rw [← hH0, Bd.state]; rfl
  have N0 := Fr.nil n0
  refine own_cast (ef_ckl m p2) ?_
  show own_Go p e below (fun o U' => ∃ v L, o = .returned v ∧ Qckl Z p2 h0 n0 v U'.heap L ∧ FrameEnd s o U' L ({ frames := 0, cells := 0, slots := 0, locals := 0 } : Room).cells ({ frames := 0, cells := 0, slots := 0, locals := 0 } : Room).slots) (s₁.setTop (mkF m 0 #[.val (.int (0 : Int32)), .val (.int p2)] []))
  refine own_via (fun _ => XS.iloadN X0.here hx rfl (hb hby d25_0) rfl) ?_
  show own_Go p e below _ (s₁.setTop (mkF m 1 #[.val (.int (0 : Int32)), .val (.int p2)] [(.int p2)]))
  refine own_via (fun _ => XS.iloadN X0.here hx rfl (hb hby d25_1) rfl) ?_
  show own_Go p e below _ (s₁.setTop (mkF m 2 #[.val (.int (0 : Int32)), .val (.int p2)] [(.int (0 : Int32)), (.int p2)]))
  refine own_via (fun _ => XS.icmpYes X0.here hx rfl (pc0 := 2) (pc' := 37) rfl (hb hby d25_2) rfl (flt (h1 : ¬ (p2 < (0 : Int32)))).2.1 (by decide) (by decide)) ?_
  show own_Go p e below _ (s₁.setTop (mkF m 37 #[.val (.int (0 : Int32)), .val (.int p2)] []))
  exact own_ret0 X0 Bd.notSynchronized hx Bd.returns (hb hby d25_37) (by decide) (by decide) (by rw [e0]; exact ⟨rfl, N0, rfl⟩)
theorem d26_0 : decode jdk_29_method_69_code 0 = .ok (.iload_n 0, 1) := by decide +kernel
theorem d26_1 : decode jdk_29_method_69_code 1 = .ok (.iload_n 1, 1) := by decide +kernel
theorem d26_2 : decode jdk_29_method_69_code 2 = .ok (.if_icmp .gt 7, 3) := by decide +kernel
theorem d26_5 : decode jdk_29_method_69_code 5 = .ok (.iload_n 0, 1) := by decide +kernel
theorem d26_6 : decode jdk_29_method_69_code 6 = .ok (.goto 4, 3) := by decide +kernel
theorem d26_9 : decode jdk_29_method_69_code 9 = .ok (.iload_n 1, 1) := by decide +kernel
theorem d26_10 : decode jdk_29_method_69_code 10 = .ok (.ireturn, 1) := by decide +kernel
theorem ef_min (m : MethodId) (p1 : Int32) (p2 : Int32) : entryFrame m #[(.int p1), (.int p2)] 2 = mkF m 0 #[.val (.int p1), .val (.int p2)] [] := by first | (simp [entryFrame, mkF, argsToLocals, Value.category]; done) | rfl
def Qmin (Z : State) (p1 : Int32) (p2 : Int32) (h0 : Heap) (n0 : Nat) (v : Option Value) (h : Heap) (L : List Loc) : Prop := v = some (.int p2) ∧ Fr n0 L ∧ h = h0
set_option maxRecDepth 65536 in
set_option maxHeartbeats 40000000 in
theorem rmmin (l : Launch) (Z : State) (a0 : Array Value) (hw : ∀ d ∈ tables_1, d.before a0 Z = true) (ws : List Jvm.Cond) (p1 : Int32) (p2 : Int32) (h0 : Heap) (n0 : Nat) (Z0 : n0 ≤ h0.size) (h1 : p2 < p1) :
    MetFree l (⟨"java/lang/Math", "min", "(II)I"⟩ : MethodName) (head1 (Jvm.Cond.code (⟨"java/lang/Math", "min", "(II)I"⟩ : MethodName) jdk_29_method_69_code 2 (some .int) :: ws) ({ frames := 0, cells := 0, slots := 0, locals := 0 } : Room)) (fun a U => a = #[(.int p1), (.int p2)] ∧ Z.Warmed39 U.vm ∧ U.heap = h0) (fun _ _ _ _ _ => True) (fun _ U o U' => ∃ v L, o = .returned v ∧ Qmin Z p1 p2 h0 n0 v U'.heap L ∧ FrameEnd U o U' L ({ frames := 0, cells := 0, slots := 0, locals := 0 } : Room).cells ({ frames := 0, cells := 0, slots := 0, locals := 0 } : Room).slots) := by
  refine MetFree.of_bodySF (Jvm.Free.JP.mathPlain rfl (by decide +kernel)) hisR ?_
  intro p e s m args below meth c s₁ Bd hml0 hP hK
  obtain ⟨rfl, hZ, hH0⟩ := hP
  have hx := Bd.exec
  have hby := Bd.bytes
  have hml : c.maxLocals = 2 := hml0
  have hown : s.vm.findClass "java/lang/Math" = some m.cls := findClass_of_methodNamed Bd.named
  have hnm := (name_of_methodNamed Bd.named Bd.method).1
  have X0 : Stand p l e ({ frames := 0, cells := 0, slots := 0, locals := 0 } : Room) s m #[(.int p1), (.int p2)] below meth c s₁ [] 0 0 := Stand.of_body Bd
  have e0 : s₁.heap = h0 := by rw [← hH0, Bd.state]; rfl
  have N0 := Fr.nil n0
  refine own_cast (ef_min m p1 p2) ?_
  show own_Go p e below (fun o U' => ∃ v L, o = .returned v ∧ Qmin Z p1 p2 h0 n0 v U'.heap L ∧ FrameEnd s o U' L ({ frames := 0, cells := 0, slots := 0, locals := 0 } : Room).cells ({ frames := 0, cells := 0, slots := 0, locals := 0 } : Room).slots) (s₁.setTop (mkF m 0 #[.val (.int p1), .val (.int p2)] []))
  refine own_via (fun _ => XS.iloadN X0.here hx rfl (hb hby d26_0) rfl) ?_
  show own_Go p e below _ (s₁.setTop (mkF m 1 #[.val (.int p1), .val (.int p2)] [(.int p1)]))
  refine own_via (fun _ => XS.iloadN X0.here hx rfl (hb hby d26_1) rfl) ?_
  show own_Go p e below _ (s₁.setTop (mkF m 2 #[.val (.int p1), .val (.int p2)] [(.int p2), (.int p1)]))
  refine own_via (fun _ => XS.icmpYes X0.here hx rfl (pc0 := 2) (pc' := 9) rfl (hb hby d26_2) rfl (tlt (h1 : p2 < p1)).2.2.1 (by decide) (by decide)) ?_
  show own_Go p e below _ (s₁.setTop (mkF m 9 #[.val (.int p1), .val (.int p2)] []))
  refine own_via (fun _ => XS.iloadN X0.here hx rfl (hb hby d26_9) rfl) ?_
  show own_Go p e below _ (s₁.setTop (mkF m 10 #[.val (.int p1), .val (.int p2)] [(.int p2)]))
  exact own_retv X0 Bd.notSynchronized hx Bd.returns rfl (Or.inl ⟨rfl, (by simp), _, rfl⟩) (hb hby d26_10) (by decide) (by decide) (by rw [e0]; exact ⟨rfl, N0, rfl⟩)
theorem own_sub0 (x : Int32) : x - (0 : Int32) = x := Int32.sub_zero x
theorem own_add0 (x : Int32) : (0 : Int32) + x = x := Int32.zero_add x
theorem d24_0 : decode jdk_65_method_133_code 0 = .ok (.iload_n 1, 1) := by decide +kernel
theorem d24_1 : decode jdk_65_method_133_code 1 = .ok (.iload_n 2, 1) := by decide +kernel
theorem d24_2 : decode jdk_65_method_133_code 2 = .ok (.invokestatic 343, 3) := by decide +kernel
theorem d24_5 : decode jdk_65_method_133_code 5 = .ok (.iload_n 2, 1) := by decide +kernel
theorem d24_6 : decode jdk_65_method_133_code 6 = .ok (.iload_n 1, 1) := by decide +kernel
theorem d24_7 : decode jdk_65_method_133_code 7 = .ok (.isub, 1) := by decide +kernel
theorem d24_8 : decode jdk_65_method_133_code 8 = .ok (.istore_n 3, 1) := by decide +kernel
theorem d24_9 : decode jdk_65_method_133_code 9 = .ok (.iload_n 3, 1) := by decide +kernel
theorem d24_10 : decode jdk_65_method_133_code 10 = .ok (.newarray .byte, 2) := by decide +kernel
theorem d24_12 : decode jdk_65_method_133_code 12 = .ok (.astore 4, 2) := by decide +kernel
theorem d24_14 : decode jdk_65_method_133_code 14 = .ok (.aload_n 0, 1) := by decide +kernel
theorem d24_15 : decode jdk_65_method_133_code 15 = .ok (.iload_n 1, 1) := by decide +kernel
theorem d24_16 : decode jdk_65_method_133_code 16 = .ok (.aload 4, 2) := by decide +kernel
theorem d24_18 : decode jdk_65_method_133_code 18 = .ok (.iconst 0, 1) := by decide +kernel
theorem d24_19 : decode jdk_65_method_133_code 19 = .ok (.aload_n 0, 1) := by decide +kernel
theorem d24_20 : decode jdk_65_method_133_code 20 = .ok (.arraylength, 1) := by decide +kernel
theorem d24_21 : decode jdk_65_method_133_code 21 = .ok (.iload_n 1, 1) := by decide +kernel
theorem d24_22 : decode jdk_65_method_133_code 22 = .ok (.isub, 1) := by decide +kernel
theorem d24_23 : decode jdk_65_method_133_code 23 = .ok (.iload_n 3, 1) := by decide +kernel
theorem d24_24 : decode jdk_65_method_133_code 24 = .ok (.invokestatic 304, 3) := by decide +kernel
theorem d24_27 : decode jdk_65_method_133_code 27 = .ok (.invokestatic 150, 3) := by decide +kernel
theorem d24_30 : decode jdk_65_method_133_code 30 = .ok (.aload 4, 2) := by decide +kernel
theorem d24_32 : decode jdk_65_method_133_code 32 = .ok (.areturn, 1) := by decide +kernel
theorem pd_10 : parseMethodDescriptor "(II)V" = some ⟨[.int, .int], none⟩ := by decide +kernel
theorem pd_11 : parseMethodDescriptor "(II)I" = some ⟨[.int, .int], some .int⟩ := by decide +kernel
theorem pd_12 : parseMethodDescriptor "(Ljava/lang/Object;ILjava/lang/Object;II)V" = some ⟨[(.object "java/lang/Object"), .int, (.object "java/lang/Object"), .int, .int], none⟩ := by decide +kernel
theorem ef_corb (m : MethodId) (a1 : Addr) : entryFrame m #[(.ref a1), (.int (0 : Int32)), (.int (Int32.ofNat i))] 5 = mkF m 0 #[.val (.ref a1), .val (.int (0 : Int32)), .val (.int (Int32.ofNat i)), .unset, .unset] [] := by first | (simp [entryFrame, mkF, argsToLocals, Value.category]; done) | rfl
def Qcorb (Z : State) (a1 : Addr) (k1 : ClassId) (bs : List Int32) (N : Int32) (i : Nat) (h0 : Heap) (n0 : Nat) (v : Option Value) (h : Heap) (L : List Loc) : Prop := ∃ r : Addr, ∃ k : ClassId, v = some (.ref r) ∧ Fr n0 L ∧ Keep h0 h [] ∧ (h0.size ≤ r) ∧ (Arv Z h r k .byte (Int32.ofNat i) ((bs.take i).map Value.int) (.int (0 : Int32)))
set_option maxRecDepth 65536 in
set_option maxHeartbeats 40000000 in
theorem rmcorb (l : Launch) (Z : State) (a0 : Array Value) (hw : ∀ d ∈ tables_1, d.before a0 Z = true) (ws : List Jvm.Cond) (a1 : Addr) (k1 : ClassId) (bs : List Int32) (N : Int32) (i : Nat) (h0 : Heap) (n0 : Nat) (Z0 : n0 ≤ h0.size) (A1 : Arv Z h0 a1 k1 .byte N (bs.map Value.int) (.int (0 : Int32))) (hN : N = Int32.ofNat bs.length) (hl : bs.length ≤ 6) (hi : i < bs.length) :
    MetFree l (⟨"java/util/Arrays", "copyOfRangeByte", "([BII)[B"⟩ : MethodName) (head1 (Jvm.Cond.code (⟨"java/util/Arrays", "copyOfRangeByte", "([BII)[B"⟩ : MethodName) jdk_65_method_133_code 5 (some (.array .byte)) :: ws) ({ frames := 1, cells := 1, slots := 6, locals := 40 } : Room)) (fun a U => a = #[(.ref a1), (.int (0 : Int32)), (.int (Int32.ofNat i))] ∧ Z.Warmed39 U.vm ∧ U.heap = h0) (fun _ _ _ _ _ => True) (fun _ U o U' => ∃ v L, o = .returned v ∧ Qcorb Z a1 k1 bs N i h0 n0 v U'.heap L ∧ FrameEnd U o U' L ({ frames := 1, cells := 1, slots := 6, locals := 40 } : Room).cells ({ frames := 1, cells := 1, slots := 6, locals := 40 } : Room).slots) := by
  refine MetFree.of_bodySF (plainFor_of_name pn_java_util_Arrays) hisR ?_
  intro p e s m args below meth c s₁ Bd hml0 hP hK
  obtain ⟨rfl, hZ, hH0⟩ := hP
  have hx := Bd.exec
  have hby := Bd.bytes
  have hml : c.maxLocals = 5 := hml0
  have hown : s.vm.findClass "java/util/Arrays" = some m.cls := findClass_of_methodNamed Bd.named
  have hnm := (name_of_methodNamed Bd.named Bd.method).1
  have X0 : Stand p l e ({ frames := 1, cells := 1, slots := 6, locals := 40 } : Room) s m #[(.ref a1), (.int (0 : Int32)), (.int (Int32.ofNat i))] below meth c s₁ [] 0 0 := Stand.of_body Bd
  have e0 : s₁.heap = h0 := by rw [← hH0, Bd.state]; rfl
  have N0 := Fr.nil n0
  refine own_cast (ef_corb m a1) ?_
  show own_Go p e below (fun o U' => ∃ v L, o = .returned v ∧ Qcorb Z a1 k1 bs N i h0 n0 v U'.heap L ∧ FrameEnd s o U' L ({ frames := 1, cells := 1, slots := 6, locals := 40 } : Room).cells ({ frames := 1, cells := 1, slots := 6, locals := 40 } : Room).slots) (s₁.setTop (mkF m 0 #[.val (.ref a1), .val (.int (0 : Int32)), .val (.int (Int32.ofNat i)), .unset, .unset] []))
  refine own_via (fun _ => XS.iloadN X0.here hx rfl (hb hby d24_0) rfl) ?_
  show own_Go p e below _ (s₁.setTop (mkF m 1 #[.val (.ref a1), .val (.int (0 : Int32)), .val (.int (Int32.ofNat i)), .unset, .unset] [(.int (0 : Int32))]))
  refine own_via (fun _ => XS.iloadN X0.here hx rfl (hb hby d24_1) rfl) ?_
  show own_Go p e below _ (s₁.setTop (mkF m 2 #[.val (.ref a1), .val (.int (0 : Int32)), .val (.int (Int32.ofNat i)), .unset, .unset] [(.int (Int32.ofNat i)), (.int (0 : Int32))]))
  obtain ⟨_, _, ⟨T_1, L_1, k_1, n_1⟩, -, X_1, ⟨Lc_1, hQ_1, l_1, y_1, z_1⟩, st_1⟩ := Jvm.LawKit.callS X0 hx (y := (⟨"java/util/Arrays", "checkLength", "(II)V"⟩ : MethodName)) hown (mvT hZ (own_w hw 109 rfl)) (mvT hZ (own_w hw 110 rfl)) (mvT hZ (own_w hw 104 rfl)) (mvT hZ (own_w hw 111 rfl)) (by decide) (backOf (W := 0) (rmckl l Z a0 hw [] (Int32.ofNat i) h0 n0 Z0 (own_nn (by omega))) hZ (own_w hw 111 rfl) (own_w hw 104 rfl) (by decide) (by decide)) (g := (mkF m 2 #[.val (.ref a1), .val (.int (0 : Int32)), .val (.int (Int32.ofNat i)), .unset, .unset] [(.int (Int32.ofNat i)), (.int (0 : Int32))])) rfl (by rw [hml]; rfl) (argsL := [(.int (0 : Int32)), (.int (Int32.ofNat i))]) (rest := []) (lenOf pd_10 rfl) rfl (by show 2 * 0 + _ ≤ _; exact Nat.le_of_eq rfl) (hb hby d24_2) (fun _ _ => ⟨rfl, e0, (by decide : 0 + 0 ≤ _), (by decide : 0 + 0 ≤ _)⟩)
  dsimp only [Pt.U, Pt.locs, Pt.cells, Pt.slots] at X_1 l_1 y_1 z_1 st_1 hQ_1
  subst l_1 y_1 z_1
  obtain ⟨rfl, Nq_1, e_1⟩ := hQ_1
  have N_1 := Fr.app N0 Nq_1
  refine own_via st_1 ?_
  show own_Go p e below _ (T_1.setTop (mkF m 5 #[.val (.ref a1), .val (.int (0 : Int32)), .val (.int (Int32.ofNat i)), .unset, .unset] []))
  refine own_via (fun _ => XS.iloadN X_1.here hx rfl (hb hby d24_5) rfl) ?_
  show own_Go p e below _ (T_1.setTop (mkF m 6 #[.val (.ref a1), .val (.int (0 : Int32)), .val (.int (Int32.ofNat i)), .unset, .unset] [(.int (Int32.ofNat i))]))
  refine own_via (fun _ => XS.iloadN X_1.here hx rfl (hb hby d24_6) rfl) ?_
  show own_Go p e below _ (T_1.setTop (mkF m 7 #[.val (.ref a1), .val (.int (0 : Int32)), .val (.int (Int32.ofNat i)), .unset, .unset] [(.int (0 : Int32)), (.int (Int32.ofNat i))]))
  refine own_via (fun _ => XS.isub X_1.here hx rfl (hb hby d24_7) rfl) ?_
  show own_Go p e below _ (T_1.setTop (mkF m 8 #[.val (.ref a1), .val (.int (0 : Int32)), .val (.int (Int32.ofNat i)), .unset, .unset] [(.int ((Int32.ofNat i) - (0 : Int32)))]))
  rw [own_sub0]
  show own_Go p e below _ (T_1.setTop (mkF m 8 #[.val (.ref a1), .val (.int (0 : Int32)), .val (.int (Int32.ofNat i)), .unset, .unset] [(.int (Int32.ofNat i))]))
  refine own_via (fun _ => XS.istoreN X_1.here hx rfl (hb hby d24_8) rfl (l' := #[.val (.ref a1), .val (.int (0 : Int32)), .val (.int (Int32.ofNat i)), .val (.int (Int32.ofNat i)), .unset]) rfl) ?_
  show own_Go p e below _ (T_1.setTop (mkF m 9 #[.val (.ref a1), .val (.int (0 : Int32)), .val (.int (Int32.ofNat i)), .val (.int (Int32.ofNat i)), .unset] []))
  refine own_via (fun _ => XS.iloadN X_1.here hx rfl (hb hby d24_9) rfl) ?_
  show own_Go p e below _ (T_1.setTop (mkF m 10 #[.val (.ref a1), .val (.int (0 : Int32)), .val (.int (Int32.ofNat i)), .val (.int (Int32.ofNat i)), .unset] [(.int (Int32.ofNat i))]))
  obtain ⟨T_2, h_2, k_2, X_2, e_2, E_2, A_2, st_2⟩ := newP X_1 hx hZ (own_w hw 26 rfl) e_1 (g := (mkF m 10 #[.val (.ref a1), .val (.int (0 : Int32)), .val (.int (Int32.ofNat i)), .val (.int (Int32.ofNat i)), .unset] [(.int (Int32.ofNat i))])) rfl (hb hby d24_10) rfl (own_nn (by omega)) (cap := 6) (by rw [own_clamp (by omega)]; omega) (by decide) (by decide) (by decide)
  obtain ⟨b_2, g_2⟩ : ∃ z, z = h0.size := ⟨_, rfl⟩
  rw [← g_2] at A_2 st_2
  have V_2 : Arv Z h_2 b_2 k_2 .byte (Int32.ofNat i) [] (.int (0 : Int32)) := Arv.new A_2 (own_nn (by omega))
  refine own_via st_2 ?_
  show own_Go p e below _ (T_2.setTop (mkF m 12 #[.val (.ref a1), .val (.int (0 : Int32)), .val (.int (Int32.ofNat i)), .val (.int (Int32.ofNat i)), .unset] [(.ref b_2)]))
  have V_3 : Arv Z h_2 b_2 k_2 .byte (Int32.ofNat i) (List.replicate i (.int (0 : Int32))) (.int (0 : Int32)) := V_2.pad (pad_rep [] (.int (0 : Int32)) i)
  refine own_via (fun _ => XS.astore X_2.here hx rfl (hb hby d24_12) rfl rfl (l' := #[.val (.ref a1), .val (.int (0 : Int32)), .val (.int (Int32.ofNat i)), .val (.int (Int32.ofNat i)), .val (.ref b_2)]) rfl) ?_
  show own_Go p e below _ (T_2.setTop (mkF m 14 #[.val (.ref a1), .val (.int (0 : Int32)), .val (.int (Int32.ofNat i)), .val (.int (Int32.ofNat i)), .val (.ref b_2)] []))
  refine own_via (fun _ => XS.aloadN X_2.here hx rfl (hb hby d24_14) rfl rfl) ?_
  show own_Go p e below _ (T_2.setTop (mkF m 15 #[.val (.ref a1), .val (.int (0 : Int32)), .val (.int (Int32.ofNat i)), .val (.int (Int32.ofNat i)), .val (.ref b_2)] [(.ref a1)]))
  refine own_via (fun _ => XS.iloadN X_2.here hx rfl (hb hby d24_15) rfl) ?_
  show own_Go p e below _ (T_2.setTop (mkF m 16 #[.val (.ref a1), .val (.int (0 : Int32)), .val (.int (Int32.ofNat i)), .val (.int (Int32.ofNat i)), .val (.ref b_2)] [(.int (0 : Int32)), (.ref a1)]))
  refine own_via (fun _ => XS.aload X_2.here hx rfl (hb hby d24_16) rfl rfl) ?_
  show own_Go p e below _ (T_2.setTop (mkF m 18 #[.val (.ref a1), .val (.int (0 : Int32)), .val (.int (Int32.ofNat i)), .val (.int (Int32.ofNat i)), .val (.ref b_2)] [(.ref b_2), (.int (0 : Int32)), (.ref a1)]))
  refine own_via (fun _ => XS.iconst X_2.here hx rfl (hb hby d24_18)) ?_
  show own_Go p e below _ (T_2.setTop (mkF m 19 #[.val (.ref a1), .val (.int (0 : Int32)), .val (.int (Int32.ofNat i)), .val (.int (Int32.ofNat i)), .val (.ref b_2)] [(.int (0 : Int32)), (.ref b_2), (.int (0 : Int32)), (.ref a1)]))
  refine own_via (fun _ => XS.aloadN X_2.here hx rfl (hb hby d24_19) rfl rfl) ?_
  show own_Go p e below _ (T_2.setTop (mkF m 20 #[.val (.ref a1), .val (.int (0 : Int32)), .val (.int (Int32.ofNat i)), .val (.int (Int32.ofNat i)), .val (.ref b_2)] [(.ref a1), (.int (0 : Int32)), (.ref b_2), (.int (0 : Int32)), (.ref a1)]))
  have K_4 : Keep h0 h_2 [] := (Keep.refl h0 []).ext E_2
  obtain ⟨cl_5, Ar_5, q_5, S_5, M_5, H_5, G_5⟩ := (id (A1.keep K_4 nin0))
  refine own_via (X_2.arraylength hx (by rw [e_2]; exact Ar_5.1) (State.isArrayOf_alike hZ.alike Ar_5.2.1) (g := (mkF m 20 #[.val (.ref a1), .val (.int (0 : Int32)), .val (.int (Int32.ofNat i)), .val (.int (Int32.ofNat i)), .val (.ref b_2)] [(.ref a1), (.int (0 : Int32)), (.ref b_2), (.int (0 : Int32)), (.ref a1)])) rfl rfl (hb hby d24_20)) ?_
  rw [len_of S_5 M_5]
  show own_Go p e below _ (T_2.setTop (mkF m 21 #[.val (.ref a1), .val (.int (0 : Int32)), .val (.int (Int32.ofNat i)), .val (.int (Int32.ofNat i)), .val (.ref b_2)] [(.int N), (.int (0 : Int32)), (.ref b_2), (.int (0 : Int32)), (.ref a1)]))
  refine own_via (fun _ => XS.iloadN X_2.here hx rfl (hb hby d24_21) rfl) ?_
  show own_Go p e below _ (T_2.setTop (mkF m 22 #[.val (.ref a1), .val (.int (0 : Int32)), .val (.int (Int32.ofNat i)), .val (.int (Int32.ofNat i)), .val (.ref b_2)] [(.int (0 : Int32)), (.int N), (.int (0 : Int32)), (.ref b_2), (.int (0 : Int32)), (.ref a1)]))
  refine own_via (fun _ => XS.isub X_2.here hx rfl (hb hby d24_22) rfl) ?_
  show own_Go p e below _ (T_2.setTop (mkF m 23 #[.val (.ref a1), .val (.int (0 : Int32)), .val (.int (Int32.ofNat i)), .val (.int (Int32.ofNat i)), .val (.ref b_2)] [(.int (N - (0 : Int32))), (.int (0 : Int32)), (.ref b_2), (.int (0 : Int32)), (.ref a1)]))
  rw [own_sub0]
  show own_Go p e below _ (T_2.setTop (mkF m 23 #[.val (.ref a1), .val (.int (0 : Int32)), .val (.int (Int32.ofNat i)), .val (.int (Int32.ofNat i)), .val (.ref b_2)] [(.int N), (.int (0 : Int32)), (.ref b_2), (.int (0 : Int32)), (.ref a1)]))
  refine own_via (fun _ => XS.iloadN X_2.here hx rfl (hb hby d24_23) rfl) ?_
  show own_Go p e below _ (T_2.setTop (mkF m 24 #[.val (.ref a1), .val (.int (0 : Int32)), .val (.int (Int32.ofNat i)), .val (.int (Int32.ofNat i)), .val (.ref b_2)] [(.int (Int32.ofNat i)), (.int N), (.int (0 : Int32)), (.ref b_2), (.int (0 : Int32)), (.ref a1)]))
  obtain ⟨_, _, ⟨T_6, L_6, k_6, n_6⟩, -, X_6, ⟨Lc_6, hQ_6, l_6, y_6, z_6⟩, st_6⟩ := Jvm.LawKit.callS X_2 hx (y := (⟨"java/lang/Math", "min", "(II)I"⟩ : MethodName)) hown (mvT hZ (own_w hw 112 rfl)) (mvT hZ (own_w hw 113 rfl)) (mvT hZ (own_w hw 114 rfl)) (mvT hZ (own_w hw 115 rfl)) (by decide) (backOf (W := 4) (rmmin l Z a0 hw [] N (Int32.ofNat i) h_2 n0 (Nat.le_trans Z0 K_4.1) (by rw [hN]; exact (own_lt (by omega) (by omega)).mpr hi)) hZ (own_w hw 115 rfl) (own_w hw 114 rfl) (by decide) (by decide)) (g := (mkF m 24 #[.val (.ref a1), .val (.int (0 : Int32)), .val (.int (Int32.ofNat i)), .val (.int (Int32.ofNat i)), .val (.ref b_2)] [(.int (Int32.ofNat i)), (.int N), (.int (0 : Int32)), (.ref b_2), (.int (0 : Int32)), (.ref a1)])) rfl (by rw [hml]; rfl) (argsL := [(.int N), (.int (Int32.ofNat i))]) (rest := [(.int (0 : Int32)), (.ref b_2), (.int (0 : Int32)), (.ref a1)]) (lenOf pd_11 rfl) rfl (by show 2 * 0 + _ ≤ _; exact Nat.le_of_eq rfl) (hb hby d24_24) (fun _ _ => ⟨rfl, e_2, (by decide : 1 + 0 ≤ _), (by decide : 6 + 0 ≤ _)⟩)
  dsimp only [Pt.U, Pt.locs, Pt.cells, Pt.slots] at X_6 l_6 y_6 z_6 st_6 hQ_6
  subst l_6 y_6 z_6
  obtain ⟨rfl, Nq_6, e_6⟩ := hQ_6
  have N_6 := Fr.app N_1 Nq_6
  refine own_via st_6 ?_
  show own_Go p e below _ (T_6.setTop (mkF m 27 #[.val (.ref a1), .val (.int (0 : Int32)), .val (.int (Int32.ofNat i)), .val (.int (Int32.ofNat i)), .val (.ref b_2)] [(.int (Int32.ofNat i)), (.int (0 : Int32)), (.ref b_2), (.int (0 : Int32)), (.ref a1)]))
  obtain ⟨T_7, h_7, L_7, X_7, e_7, N_7, K_7q, V_7, st_7⟩ := cpA X_6 hx hZ hown (own_w hw 116 rfl) (own_w hw 119 rfl) (own_w hw 117 rfl) (own_w hw 118 rfl) e_6 (A1.keep K_4 nin0) V_3 (Or.inl ⟨rfl, rfl⟩) (by decide) (by decide) (own_nn (by omega)) (by rw [hN, own_clamp (by omega), own_clamp (by omega)]; show 0 + i ≤ _; omega) (by rw [own_clamp (by omega)]; show 0 + i ≤ _; omega) rfl (by rw [own_clamp (by omega), List.length_replicate]; show 0 + i ≤ _; omega) N_6 (Nat.le_trans Z0 (Nat.le_of_eq g_2.symm)) (g := (mkF m 27 #[.val (.ref a1), .val (.int (0 : Int32)), .val (.int (Int32.ofNat i)), .val (.int (Int32.ofNat i)), .val (.ref b_2)] [(.int (Int32.ofNat i)), (.int (0 : Int32)), (.ref b_2), (.int (0 : Int32)), (.ref a1)])) rfl (by rw [hml]; rfl) rfl (hb hby d24_27) (by decide) (W := 0) (by show 2 * 0 + _ ≤ _; exact Nat.le_of_eq rfl) (by decide)
  have VV_7 : Arv Z h_7 b_2 k_2 .byte (Int32.ofNat i) ((bs.take i).map Value.int) (.int (0 : Int32)) := own_cp (bs := bs) (i := i) (by omega) (by omega) ▸ V_7
  refine own_via st_7 ?_
  show own_Go p e below _ (T_7.setTop (mkF m 30 #[.val (.ref a1), .val (.int (0 : Int32)), .val (.int (Int32.ofNat i)), .val (.int (Int32.ofNat i)), .val (.ref b_2)] []))
  refine own_via (fun _ => XS.aload X_7.here hx rfl (hb hby d24_30) rfl rfl) ?_
  show own_Go p e below _ (T_7.setTop (mkF m 32 #[.val (.ref a1), .val (.int (0 : Int32)), .val (.int (Int32.ofNat i)), .val (.int (Int32.ofNat i)), .val (.ref b_2)] [(.ref b_2)]))
  have K_8 : Keep h0 h_7 [] := Keep.trans (ws := []) K_4 K_7q (allS (Or.inr (Nat.le_of_eq g_2.symm)) all0)
  exact own_retv X_7 Bd.notSynchronized hx Bd.returns rfl (Or.inr (Or.inr (Or.inr (Or.inr ⟨rfl, rfl, rfl⟩)))) (hb hby d24_32) (by decide) (by decide) (by rw [e_7]; exact ⟨b_2, k_2, rfl, N_7, K_8, (Nat.le_of_eq g_2.symm), VV_7⟩)
theorem d23_0 : decode jdk_65_method_132_code 0 = .ok (.iload_n 1, 1) := by decide +kernel
theorem d23_1 : decode jdk_65_method_132_code 1 = .ok (.ifCond .ne 9, 3) := by decide +kernel
theorem d23_4 : decode jdk_65_method_132_code 4 = .ok (.iload_n 2, 1) := by decide +kernel
theorem d23_5 : decode jdk_65_method_132_code 5 = .ok (.aload_n 0, 1) := by decide +kernel
theorem d23_6 : decode jdk_65_method_132_code 6 = .ok (.arraylength, 1) := by decide +kernel
theorem d23_7 : decode jdk_65_method_132_code 7 = .ok (.if_icmp .eq 10, 3) := by decide +kernel
theorem d23_10 : decode jdk_65_method_132_code 10 = .ok (.aload_n 0, 1) := by decide +kernel
theorem d23_11 : decode jdk_65_method_132_code 11 = .ok (.iload_n 1, 1) := by decide +kernel
theorem d23_12 : decode jdk_65_method_132_code 12 = .ok (.iload_n 2, 1) := by decide +kernel
theorem d23_13 : decode jdk_65_method_132_code 13 = .ok (.invokestatic 339, 3) := by decide +kernel
theorem d23_16 : decode jdk_65_method_132_code 16 = .ok (.areturn, 1) := by decide +kernel
theorem d23_17 : decode jdk_65_method_132_code 17 = .ok (.aload_n 0, 1) := by decide +kernel
theorem d23_18 : decode jdk_65_method_132_code 18 = .ok (.invokevirtual 310, 3) := by decide +kernel
theorem d23_21 : decode jdk_65_method_132_code 21 = .ok (.checkcast 311, 3) := by decide +kernel
theorem d23_24 : decode jdk_65_method_132_code 24 = .ok (.areturn, 1) := by decide +kernel
theorem pd_13 : parseMethodDescriptor "([BII)[B" = some ⟨[(.array .byte), .int, .int], some (.array .byte)⟩ := by decide +kernel
theorem ef_cor (m : MethodId) (a1 : Addr) : entryFrame m #[(.ref a1), (.int (0 : Int32)), (.int (Int32.ofNat i))] 3 = mkF m 0 #[.val (.ref a1), .val (.int (0 : Int32)), .val (.int (Int32.ofNat i))] [] := by first | (simp [entryFrame, mkF, argsToLocals, Value.category]; done) | rfl
def Qcor (Z : State) (a1 : Addr) (k1 : ClassId) (bs : List Int32) (N : Int32) (i : Nat) (h0 : Heap) (n0 : Nat) (v : Option Value) (h : Heap) (L : List Loc) : Prop := ∃ r : Addr, ∃ k : ClassId, v = some (.ref r) ∧ Fr n0 L ∧ Keep h0 h [] ∧ (h0.size ≤ r) ∧ (Arv Z h r k .byte (Int32.ofNat i) ((bs.take i).map Value.int) (.int (0 : Int32)))
set_option maxRecDepth 65536 in
set_option maxHeartbeats 40000000 in
theorem rmcor (l : Launch) (Z : State) (a0 : Array Value) (hw : ∀ d ∈ tables_1, d.before a0 Z = true) (ws : List Jvm.Cond) (a1 : Addr) (k1 : ClassId) (bs : List Int32) (N : Int32) (i : Nat) (h0 : Heap) (n0 : Nat) (Z0 : n0 ≤ h0.size) (A1 : Arv Z h0 a1 k1 .byte N (bs.map Value.int) (.int (0 : Int32))) (hN : N = Int32.ofNat bs.length) (hl : bs.length ≤ 6) (hi : i < bs.length) :
    MetFree l (⟨"java/util/Arrays", "copyOfRange", "([BII)[B"⟩ : MethodName) (head1 (Jvm.Cond.code (⟨"java/util/Arrays", "copyOfRange", "([BII)[B"⟩ : MethodName) jdk_65_method_132_code 3 (some (.array .byte)) :: ws) ({ frames := 2, cells := 1, slots := 6, locals := 56 } : Room)) (fun a U => a = #[(.ref a1), (.int (0 : Int32)), (.int (Int32.ofNat i))] ∧ Z.Warmed39 U.vm ∧ U.heap = h0) (fun _ _ _ _ _ => True) (fun _ U o U' => ∃ v L, o = .returned v ∧ Qcor Z a1 k1 bs N i h0 n0 v U'.heap L ∧ FrameEnd U o U' L ({ frames := 2, cells := 1, slots := 6, locals := 56 } : Room).cells ({ frames := 2, cells := 1, slots := 6, locals := 56 } : Room).slots) := by
  refine MetFree.of_bodySF (plainFor_of_name pn_java_util_Arrays) hisR ?_
  intro p e s m args below meth c s₁ Bd hml0 hP hK
  obtain ⟨rfl, hZ, hH0⟩ := hP
  have hx := Bd.exec
  have hby := Bd.bytes
  have hml : c.maxLocals = 3 := hml0
  have hown : s.vm.findClass "java/util/Arrays" = some m.cls := findClass_of_methodNamed Bd.named
  have hnm := (name_of_methodNamed Bd.named Bd.method).1
  have X0 : Stand p l e ({ frames := 2, cells := 1, slots := 6, locals := 56 } : Room) s m #[(.ref a1), (.int (0 : Int32)), (.int (Int32.ofNat i))] below meth c s₁ [] 0 0 := Stand.of_body Bd
  have e0 : s₁.heap = h0 := by rw [← hH0, Bd.state]; rfl
  have N0 := Fr.nil n0
  refine own_cast (ef_cor m a1) ?_
  show own_Go p e below (fun o U' => ∃ v L, o = .returned v ∧ Qcor Z a1 k1 bs N i h0 n0 v U'.heap L ∧ FrameEnd s o U' L ({ frames := 2, cells := 1, slots := 6, locals := 56 } : Room).cells ({ frames := 2, cells := 1, slots := 6, locals := 56 } : Room).slots) (s₁.setTop (mkF m 0 #[.val (.ref a1), .val (.int (0 : Int32)), .val (.int (Int32.ofNat i))] []))
  refine own_via (fun _ => XS.iloadN X0.here hx rfl (hb hby d23_0) rfl) ?_
  show own_Go p e below _ (s₁.setTop (mkF m 1 #[.val (.ref a1), .val (.int (0 : Int32)), .val (.int (Int32.ofNat i))] [(.int (0 : Int32))]))
  refine own_via (fun _ => XS.ifNo X0.here hx rfl (hb hby d23_1) rfl ((if0 _ _).trans (teq ((by decide) : (0 : Int32) = (0 : Int32))).2)) ?_
  show own_Go p e below _ (s₁.setTop (mkF m 4 #[.val (.ref a1), .val (.int (0 : Int32)), .val (.int (Int32.ofNat i))] []))
  refine own_via (fun _ => XS.iloadN X0.here hx rfl (hb hby d23_4) rfl) ?_
  show own_Go p e below _ (s₁.setTop (mkF m 5 #[.val (.ref a1), .val (.int (0 : Int32)), .val (.int (Int32.ofNat i))] [(.int (Int32.ofNat i))]))
  refine own_via (fun _ => XS.aloadN X0.here hx rfl (hb hby d23_5) rfl rfl) ?_
  show own_Go p e below _ (s₁.setTop (mkF m 6 #[.val (.ref a1), .val (.int (0 : Int32)), .val (.int (Int32.ofNat i))] [(.ref a1), (.int (Int32.ofNat i))]))
  obtain ⟨cl_1, Ar_1, q_1, S_1, M_1, H_1, G_1⟩ := (id A1)
  refine own_via (X0.arraylength hx (by rw [e0]; exact Ar_1.1) (State.isArrayOf_alike hZ.alike Ar_1.2.1) (g := (mkF m 6 #[.val (.ref a1), .val (.int (0 : Int32)), .val (.int (Int32.ofNat i))] [(.ref a1), (.int (Int32.ofNat i))])) rfl rfl (hb hby d23_6)) ?_
  rw [len_of S_1 M_1]
  show own_Go p e below _ (s₁.setTop (mkF m 7 #[.val (.ref a1), .val (.int (0 : Int32)), .val (.int (Int32.ofNat i))] [(.int N), (.int (Int32.ofNat i))]))
  refine own_via (fun _ => XS.icmpNo X0.here hx rfl (hb hby d23_7) rfl (feq (fun q => by rw [hN] at q; exact absurd ((own_eq (by omega) (by omega)).mp q) (by omega) : ¬ ((Int32.ofNat i) = N))).1) ?_
  show own_Go p e below _ (s₁.setTop (mkF m 10 #[.val (.ref a1), .val (.int (0 : Int32)), .val (.int (Int32.ofNat i))] []))
  refine own_via (fun _ => XS.aloadN X0.here hx rfl (hb hby d23_10) rfl rfl) ?_
  show own_Go p e below _ (s₁.setTop (mkF m 11 #[.val (.ref a1), .val (.int (0 : Int32)), .val (.int (Int32.ofNat i))] [(.ref a1)]))
  refine own_via (fun _ => XS.iloadN X0.here hx rfl (hb hby d23_11) rfl) ?_
  show own_Go p e below _ (s₁.setTop (mkF m 12 #[.val (.ref a1), .val (.int (0 : Int32)), .val (.int (Int32.ofNat i))] [(.int (0 : Int32)), (.ref a1)]))
  refine own_via (fun _ => XS.iloadN X0.here hx rfl (hb hby d23_12) rfl) ?_
  show own_Go p e below _ (s₁.setTop (mkF m 13 #[.val (.ref a1), .val (.int (0 : Int32)), .val (.int (Int32.ofNat i))] [(.int (Int32.ofNat i)), (.int (0 : Int32)), (.ref a1)]))
  obtain ⟨_, _, ⟨T_2, L_2, k_2, n_2⟩, -, X_2, ⟨Lc_2, hQ_2, l_2, y_2, z_2⟩, st_2⟩ := Jvm.LawKit.callS X0 hx (y := (⟨"java/util/Arrays", "copyOfRangeByte", "([BII)[B"⟩ : MethodName)) hown (mvT hZ (own_w hw 106 rfl)) (mvT hZ (own_w hw 107 rfl)) (mvT hZ (own_w hw 104 rfl)) (mvT hZ (own_w hw 108 rfl)) (by decide) (backOf (W := 0) (rmcorb l Z a0 hw [] a1 k1 bs N i h0 n0 Z0 A1 hN hl hi) hZ (own_w hw 108 rfl) (own_w hw 104 rfl) (by decide) (by decide)) (g := (mkF m 13 #[.val (.ref a1), .val (.int (0 : Int32)), .val (.int (Int32.ofNat i))] [(.int (Int32.ofNat i)), (.int (0 : Int32)), (.ref a1)])) rfl (by rw [hml]; rfl) (argsL := [(.ref a1), (.int (0 : Int32)), (.int (Int32.ofNat i))]) (rest := []) (lenOf pd_13 rfl) rfl (by show 2 * 0 + _ ≤ _; exact Nat.le_of_eq rfl) (hb hby d23_13) (fun _ _ => ⟨rfl, e0, (by decide : 0 + 1 ≤ _), (by decide : 0 + 6 ≤ _)⟩)
  dsimp only [Pt.U, Pt.locs, Pt.cells, Pt.slots] at X_2 l_2 y_2 z_2 st_2 hQ_2
  subst l_2 y_2 z_2
  obtain ⟨r_3, u_4, rfl, Nq_2, K_2q, q_2_0, q_2_1⟩ := hQ_2
  have N_2 := Fr.app N0 Nq_2
  refine own_via st_2 ?_
  show own_Go p e below _ (T_2.setTop (mkF m 16 #[.val (.ref a1), .val (.int (0 : Int32)), .val (.int (Int32.ofNat i))] [(.ref r_3)]))
  have K_5 : Keep h0 T_2.heap [] := Keep.trans (ws := []) (Keep.refl h0 []) K_2q all0
  exact own_retv X_2 Bd.notSynchronized hx Bd.returns rfl (Or.inr (Or.inr (Or.inr (Or.inr ⟨rfl, rfl, rfl⟩)))) (hb hby d23_16) (by decide) (by decide) ⟨r_3, u_4, rfl, N_2, K_5, q_2_0, q_2_1⟩
theorem d27_0 : decode jdk_42_method_151_code 0 = .ok (.aload_n 0, 1) := by decide +kernel
theorem d27_1 : decode jdk_42_method_151_code 1 = .ok (.invokespecial 1, 3) := by decide +kernel
theorem d27_4 : decode jdk_42_method_151_code 4 = .ok (.aload_n 0, 1) := by decide +kernel
theorem d27_5 : decode jdk_42_method_151_code 5 = .ok (.aload_n 1, 1) := by decide +kernel
theorem d27_6 : decode jdk_42_method_151_code 6 = .ok (.putfield 9, 3) := by decide +kernel
theorem d27_9 : decode jdk_42_method_151_code 9 = .ok (.aload_n 0, 1) := by decide +kernel
theorem d27_10 : decode jdk_42_method_151_code 10 = .ok (.iload_n 2, 1) := by decide +kernel
theorem d27_11 : decode jdk_42_method_151_code 11 = .ok (.putfield 15, 3) := by decide +kernel
theorem d27_14 : decode jdk_42_method_151_code 14 = .ok (.return_, 1) := by decide +kernel
theorem ef_strBB (m : MethodId) (a1 : Addr) (a2 : Addr) : entryFrame m #[(.ref a1), (.ref a2), (.int (0 : Int32))] 3 = mkF m 0 #[.val (.ref a1), .val (.ref a2), .val (.int (0 : Int32))] [] := by first | (simp [entryFrame, mkF, argsToLocals, Value.category]; done) | rfl
def QstrBB (Z : State) (a1 : Addr) (a2 : Addr) (h0 : Heap) (n0 : Nat) (v : Option Value) (h : Heap) (L : List Loc) : Prop := v = none ∧ Fr n0 L ∧ Keep h0 h [a1] ∧ (Fld Z h a1 "java/lang/String" "value" "[B" (.ref a2)) ∧ (Fld Z h a1 "java/lang/String" "coder" "B" (.int (0 : Int32)))
set_option maxRecDepth 65536 in
set_option maxHeartbeats 40000000 in
theorem rmstrBB (l : Launch) (Z : State) (a0 : Array Value) (hw : ∀ d ∈ tables_1, d.before a0 Z = true) (ws : List Jvm.Cond) (a1 : Addr) (a2 : Addr) (h0 : Heap) (n0 : Nat) (Z0 : n0 ≤ h0.size) (E1 : Exa Z h0 a1 "java/lang/String") (F1 : Fld Z h0 a1 "java/lang/String" "value" "[B" .null) (F2 : Fld Z h0 a1 "java/lang/String" "coder" "B" (.int (0 : Int32))) (g1 : n0 ≤ a1) :
    MetFree l (⟨"java/lang/String", "<init>", "([BB)V"⟩ : MethodName) (head1 (Jvm.Cond.code (⟨"java/lang/String", "<init>", "([BB)V"⟩ : MethodName) jdk_42_method_151_code 3 none :: ws) ({ frames := 1, cells := 0, slots := 0, locals := 12 } : Room)) (fun a U => a = #[(.ref a1), (.ref a2), (.int (0 : Int32))] ∧ Z.Warmed39 U.vm ∧ U.heap = h0) (fun _ _ _ _ _ => True) (fun _ U o U' => ∃ v L, o = .returned v ∧ QstrBB Z a1 a2 h0 n0 v U'.heap L ∧ FrameEnd U o U' L ({ frames := 1, cells := 0, slots := 0, locals := 12 } : Room).cells ({ frames := 1, cells := 0, slots := 0, locals := 12 } : Room).slots) := by
  refine MetFree.of_bodySF (plainFor_of_name pn_java_lang_String) hisR ?_
  intro p e s m args below meth c s₁ Bd hml0 hP hK
  obtain ⟨rfl, hZ, hH0⟩ := hP
  have hx := Bd.exec
  have hby := Bd.bytes
  have hml : c.maxLocals = 3 := hml0
  have hown : s.vm.findClass "java/lang/String" = some m.cls := findClass_of_methodNamed Bd.named
  have hnm := (name_of_methodNamed Bd.named Bd.method).1
  have X0 : Stand p l e ({ frames := 1, cells := 0, slots := 0, locals := 12 } : Room) s m #[(.ref a1), (.ref a2), (.int (0 : Int32))] below meth c s₁ [] 0 0 := Stand.of_body Bd
  have e0 : s₁.heap = h0 := by rw [← hH0, Bd.state]; rfl
  have N0 := Fr.nil n0
  refine own_cast (ef_strBB m a1 a2) ?_
  show own_Go p e below (fun o U' => ∃ v L, o = .returned v ∧ QstrBB Z a1 a2 h0 n0 v U'.heap L ∧ FrameEnd s o U' L ({ frames := 1, cells := 0, slots := 0, locals := 12 } : Room).cells ({ frames := 1, cells := 0, slots := 0, locals := 12 } : Room).slots) (s₁.setTop (mkF m 0 #[.val (.ref a1), .val (.ref a2), .val (.int (0 : Int32))] []))
  refine own_via (fun _ => XS.aloadN X0.here hx rfl (hb hby d27_0) rfl rfl) ?_
  show own_Go p e below _ (s₁.setTop (mkF m 1 #[.val (.ref a1), .val (.ref a2), .val (.int (0 : Int32))] [(.ref a1)]))
  obtain ⟨T_1, X_1, e_1, st_1⟩ := initO X0 hx hZ hown (own_w hw 18 rfl) (own_w hw 19 rfl) (own_w hw 20 rfl) e0 (g := (mkF m 1 #[.val (.ref a1), .val (.ref a2), .val (.int (0 : Int32))] [(.ref a1)])) rfl (by rw [hml]; rfl) rfl (hb hby d27_1) (by decide) (W := 0) (by show 2 * 0 + _ ≤ _; exact Nat.le_of_eq rfl) (by decide)
  refine own_via st_1 ?_
  show own_Go p e below _ (T_1.setTop (mkF m 4 #[.val (.ref a1), .val (.ref a2), .val (.int (0 : Int32))] []))
  refine own_via (fun _ => XS.aloadN X_1.here hx rfl (hb hby d27_4) rfl rfl) ?_
  show own_Go p e below _ (T_1.setTop (mkF m 5 #[.val (.ref a1), .val (.ref a2), .val (.int (0 : Int32))] [(.ref a1)]))
  refine own_via (fun _ => XS.aloadN X_1.here hx rfl (hb hby d27_5) rfl rfl) ?_
  show own_Go p e below _ (T_1.setTop (mkF m 6 #[.val (.ref a1), .val (.ref a2), .val (.int (0 : Int32))] [(.ref a2), (.ref a1)]))
  obtain ⟨T_2, h_2, X_2, e_2, W_2, st_2⟩ := putF X_1 hx hZ hown (host := "") (Or.inl (own_w hw 35 rfl)) Via.refl e_1 F1 E1 (Or.inr ⟨(own_w hw 36 rfl), rfl, hnm⟩) (own_w hw 9 rfl) (ty := (.array .byte)) (by decide) rfl rfl (g := (mkF m 6 #[.val (.ref a1), .val (.ref a2), .val (.int (0 : Int32))] [(.ref a2), (.ref a1)])) rfl rfl (hb hby d27_6)
  have F_3 : Fld Z h_2 a1 "java/lang/String" "coder" "B" (.int (0 : Int32)) := F2.other W_2 (Or.inr (slot_ne (Or.inr (own_w hw 34 rfl)) (Or.inr (own_w hw 36 rfl)) (by decide) (t := .byte) (t' := (.array .byte)) (by decide) (by decide)))
  have F_4 : Fld Z h_2 a1 "java/lang/String" "value" "[B" (.ref a2) := F1.same W_2
  have N_2 := Fr.snoc X_2 N0 g1
  refine own_via st_2 ?_
  show own_Go p e below _ (T_2.setTop (mkF m 9 #[.val (.ref a1), .val (.ref a2), .val (.int (0 : Int32))] []))
  refine own_via (fun _ => XS.aloadN X_2.here hx rfl (hb hby d27_9) rfl rfl) ?_
  show own_Go p e below _ (T_2.setTop (mkF m 10 #[.val (.ref a1), .val (.ref a2), .val (.int (0 : Int32))] [(.ref a1)]))
  refine own_via (fun _ => XS.iloadN X_2.here hx rfl (hb hby d27_10) rfl) ?_
  show own_Go p e below _ (T_2.setTop (mkF m 11 #[.val (.ref a1), .val (.ref a2), .val (.int (0 : Int32))] [(.int (0 : Int32)), (.ref a1)]))
  have K_5 : Keep h0 h_2 [a1] := Keep.wr (ws := [a1]) (own_keep_mono (Keep.refl h0 []) (by simp)) W_2 (Or.inl (List.mem_of_getElem? (i := 0) rfl))
  obtain ⟨T_6, h_6, X_6, e_6, W_6, st_6⟩ := putFN X_2 hx hZ hown (own_w hw 33 rfl) Via.refl e_2 F_3 (E1.keep K_5) (Or.inr ⟨(own_w hw 34 rfl), rfl, hnm⟩) (own_w hw 9 rfl) (ty := .byte) (v' := (.int (0 : Int32))) (by decide) rfl rfl (g := (mkF m 11 #[.val (.ref a1), .val (.ref a2), .val (.int (0 : Int32))] [(.int (0 : Int32)), (.ref a1)])) rfl rfl (hb hby d27_11)
  have F_7 : Fld Z h_6 a1 "java/lang/String" "value" "[B" (.ref a2) := F_4.other W_6 (Or.inr (slot_ne (Or.inr (own_w hw 36 rfl)) (Or.inr (own_w hw 34 rfl)) (by decide) (t := (.array .byte)) (t' := .byte) (by decide) (by decide)))
  have F_8 : Fld Z h_6 a1 "java/lang/String" "coder" "B" (.int (0 : Int32)) := F_3.same W_6
  have N_6 := Fr.snoc X_6 N_2 g1
  refine own_via st_6 ?_
  show own_Go p e below _ (T_6.setTop (mkF m 14 #[.val (.ref a1), .val (.ref a2), .val (.int (0 : Int32))] []))
  have K_9 : Keep h0 h_6 [a1] := Keep.wr (ws := [a1]) K_5 W_6 (Or.inl (List.mem_of_getElem? (i := 0) rfl))
  exact own_ret0 X_6 Bd.notSynchronized hx Bd.returns (hb hby d27_14) (by decide) (by decide) (by rw [e_6]; exact ⟨rfl, N_6, K_9, F_7, F_8⟩)
theorem own_mkStr {Z : State} {h : Heap} {a t : Addr} {k : ClassId} {ds : List Int32} {i : Nat} (E : Exa Z h a "java/lang/String") (C : Fld Z h a "java/lang/String" "coder" "B" (.int 0)) (V : Fld Z h a "java/lang/String" "value" "[B" (.ref t)) (A : Arv Z h t k .byte (Int32.ofNat i) (((ds.map fun c => c.toInt8.toInt32).take i).map Value.int) (.int 0)) (hi : i < ds.length) (hl : ds.length ≤ 6) (hd : ∀ c ∈ ds, ¬ c < 0 ∧ ¬ (255 : Int32) < c) : own_Str Z h a (ds.take i) := by
  refine ⟨E, C, ⟨t, k, V, ?_⟩, fun c hc => hd c (List.mem_of_mem_take hc), ?_⟩
  · rw [List.length_take, Nat.min_eq_left (by omega), List.map_take]; exact A
  · rw [List.length_take]; omega

theorem d22_0 : decode jdk_43_method_47_code 0 = .ok (.iload_n 2, 1) := by decide +kernel
theorem d22_1 : decode jdk_43_method_47_code 1 = .ok (.ifCond .ne 6, 3) := by decide +kernel
theorem d22_4 : decode jdk_43_method_47_code 4 = .ok (.ldc 151, 2) := by decide +kernel
theorem d22_6 : decode jdk_43_method_47_code 6 = .ok (.areturn, 1) := by decide +kernel
theorem d22_7 : decode jdk_43_method_47_code 7 = .ok (.new 1, 3) := by decide +kernel
theorem d22_10 : decode jdk_43_method_47_code 10 = .ok (.dup, 1) := by decide +kernel
theorem d22_11 : decode jdk_43_method_47_code 11 = .ok (.aload_n 0, 1) := by decide +kernel
theorem d22_12 : decode jdk_43_method_47_code 12 = .ok (.iload_n 1, 1) := by decide +kernel
theorem d22_13 : decode jdk_43_method_47_code 13 = .ok (.iload_n 1, 1) := by decide +kernel
theorem d22_14 : decode jdk_43_method_47_code 14 = .ok (.iload_n 2, 1) := by decide +kernel
theorem d22_15 : decode jdk_43_method_47_code 15 = .ok (.iadd, 1) := by decide +kernel
theorem d22_16 : decode jdk_43_method_47_code 16 = .ok (.invokestatic 232, 3) := by decide +kernel
theorem d22_19 : decode jdk_43_method_47_code 19 = .ok (.iconst 0, 1) := by decide +kernel
theorem d22_20 : decode jdk_43_method_47_code 20 = .ok (.invokespecial 112, 3) := by decide +kernel
theorem d22_23 : decode jdk_43_method_47_code 23 = .ok (.areturn, 1) := by decide +kernel
theorem pd_14 : parseMethodDescriptor "([BB)V" = some ⟨[(.array .byte), .byte], none⟩ := by decide +kernel
theorem ef_newString (m : MethodId) (a1 : Addr) : entryFrame m #[(.ref a1), (.int (0 : Int32)), (.int (Int32.ofNat i))] 3 = mkF m 0 #[.val (.ref a1), .val (.int (0 : Int32)), .val (.int (Int32.ofNat i))] [] := by first | (simp [entryFrame, mkF, argsToLocals, Value.category]; done) | rfl
def QnewString (Z : State) (a1 : Addr) (k1 : ClassId) (ds : List Int32) (i : Nat) (h0 : Heap) (n0 : Nat) (v : Option Value) (h : Heap) (L : List Loc) (vm : Vm) : Prop := ∃ r : Addr, v = some (.ref r) ∧ Fr n0 L ∧ Keep h0 h [] ∧ (Exa Z h r "java/lang/String") ∧ (own_Str Z h r (ds.take i)) ∧ (CHv Z consts_1 vm h)
set_option maxRecDepth 65536 in
set_option maxHeartbeats 40000000 in
theorem rmnewString (l : Launch) (Z : State) (a0 : Array Value) (hw : ∀ d ∈ tables_1, d.before a0 Z = true) (ws : List Jvm.Cond) (a1 : Addr) (k1 : ClassId) (ds : List Int32) (i : Nat) (h0 : Heap) (n0 : Nat) (Z0 : n0 ≤ h0.size) (O0 : Old Z n0 h0) (A1 : Arv Z h0 a1 k1 .byte (Int32.ofNat ds.length) ((ds.map fun c => c.toInt8.toInt32).map Value.int) (.int (0 : Int32))) (hl : ds.length ≤ 6) (hi : i < ds.length) (hd : ∀ c ∈ ds, ¬ c < 0 ∧ ¬ (255 : Int32) < c) :
    MetFree l (⟨"java/lang/StringLatin1", "newString", "([BII)Ljava/lang/String;"⟩ : MethodName) (head1 (Jvm.Cond.code (⟨"java/lang/StringLatin1", "newString", "([BII)Ljava/lang/String;"⟩ : MethodName) jdk_43_method_47_code 3 (some (.object "java/lang/String")) :: ws) ({ frames := 3, cells := 4, slots := 14, locals := 74 } : Room)) (fun a U => a = #[(.ref a1), (.int (0 : Int32)), (.int (Int32.ofNat i))] ∧ Z.Warmed39 U.vm ∧ U.heap = h0 ∧ CHv Z consts_1 U.vm h0) (fun _ _ _ _ _ => True) (fun _ U o U' => ∃ v L, o = .returned v ∧ QnewString Z a1 k1 ds i h0 n0 v U'.heap L U'.vm ∧ ReturnedEndW U o U' L ({ frames := 3, cells := 4, slots := 14, locals := 74 } : Room).cells ({ frames := 3, cells := 4, slots := 14, locals := 74 } : Room).slots) := by
  refine MetFree.of_bodySF (plainFor_of_name pn_java_lang_StringLatin1) hisR ?_
  intro p e s m args below meth c s₁ Bd hml0 hP hK
  obtain ⟨rfl, hZ, hH0, J0⟩ := hP
  have hx := Bd.exec
  have hby := Bd.bytes
  have hml : c.maxLocals = 3 := hml0
  have hown : s.vm.findClass "java/lang/StringLatin1" = some m.cls := findClass_of_methodNamed Bd.named
  have hnm := (name_of_methodNamed Bd.named Bd.method).1
  have X0 : Stand p l e ({ frames := 3, cells := 4, slots := 14, locals := 74 } : Room) (s.setVm s.vm) m #[(.ref a1), (.int (0 : Int32)), (.int (Int32.ofNat i))] below meth c s₁ [] 0 0 := Stand.of_body Bd
  have hS0 : s.Since s.vm 0 := (State.WarmedH.refl s).since 0
  have e0 : s₁.heap = h0 := by rw [← hH0, Bd.state]; rfl
  have N0 := Fr.nil n0
  refine own_cast (ef_newString m a1) ?_
  show own_Go p e below (fun o U' => ∃ v L, o = .returned v ∧ QnewString Z a1 k1 ds i h0 n0 v U'.heap L U'.vm ∧ ReturnedEndW s o U' L ({ frames := 3, cells := 4, slots := 14, locals := 74 } : Room).cells ({ frames := 3, cells := 4, slots := 14, locals := 74 } : Room).slots) (s₁.setTop (mkF m 0 #[.val (.ref a1), .val (.int (0 : Int32)), .val (.int (Int32.ofNat i))] []))
  refine own_via (fun _ => XS.iloadN X0.here hx rfl (hb hby d22_0) rfl) ?_
  show own_Go p e below _ (s₁.setTop (mkF m 1 #[.val (.ref a1), .val (.int (0 : Int32)), .val (.int (Int32.ofNat i))] [(.int (Int32.ofNat i))]))
  by_cases hz0 : (Int32.ofNat i) = (0 : Int32)
  · refine own_via (fun _ => XS.ifNo X0.here hx rfl (hb hby d22_1) rfl ((if0 _ _).trans (teq (hz0 : (Int32.ofNat i) = (0 : Int32))).2)) ?_
    show own_Go p e below _ (s₁.setTop (mkF m 4 #[.val (.ref a1), .val (.int (0 : Int32)), .val (.int (Int32.ofNat i))] []))
    have hi0 : i = 0 := (own_eq (by omega) (by decide)).mp hz0
    obtain ⟨a_1, T_1, h_1, k_1, b_1, kk_1, X_1, e_1, E_1, hS_1, hk_1, hZ_1, ho_1, LE_1, LC_1, LV_1, LA_1, la_1, lb_1, CH_1, L_1, sf_1, st_1⟩ := ldcCH X0 hx hZ hown (own_w hw 100 rfl) (own_wS hw) e0 hS0 (Nat.zero_le _) (own_EW hw) (by decide) J0 (vs := ((([] : List Int32).map fun c => c.toInt8.toInt32).map Value.int)) (z := Int32.ofNat 0) ⟨by decide, by decide +kernel⟩ (by decide) rfl (g := (mkF m 4 #[.val (.ref a1), .val (.int (0 : Int32)), .val (.int (Int32.ofNat i))] [])) rfl (hb hby d22_4) (n := 0) (by decide) (by decide) (by decide) (by decide)
    have J_1 := CH_1.1
    have SL_1 : own_Str Z h_1 a_1 [] := ⟨LE_1, LC_1, ⟨b_1, kk_1, LV_1, LA_1⟩, by decide, by decide⟩
    refine own_via st_1 ?_
    show own_Go p e below _ (T_1.setTop (mkF m 6 #[.val (.ref a1), .val (.int (0 : Int32)), .val (.int (Int32.ofNat i))] [(.ref a_1)]))
    have K_2 : Keep h0 h_1 [] := (Keep.refl h0 []).ext E_1
    exact own_retvW X_1 hS_1 (by rw [e_1]; exact hk_1) Bd.notSynchronized hx Bd.returns rfl (Or.inr (Or.inr (Or.inr (Or.inr ⟨rfl, rfl, rfl⟩)))) (hb hby d22_6) (by decide) (by decide) (by rw [e_1]; exact ⟨a_1, rfl, N0, K_2, LE_1, (by rw [hi0]; exact SL_1), (own_CHstay J_1 hZ_1 (own_EW hw) X_1.warmed)⟩)
  · refine own_via (fun _ => XS.ifYes X0.here hx rfl (pc0 := 1) (pc' := 7) rfl (hb hby d22_1) rfl ((if0 _ _).trans (feq (hz0 : ¬ ((Int32.ofNat i) = (0 : Int32)))).2) (by decide) (by decide)) ?_
    show own_Go p e below _ (s₁.setTop (mkF m 7 #[.val (.ref a1), .val (.int (0 : Int32)), .val (.int (Int32.ofNat i))] []))
    obtain ⟨T_3, h_3, X_3, e_3, E_3, A_3, D_3, -, st_3⟩ := newO X0 hx hZ hown (own_w hw 101 rfl) (own_w hw 9 rfl) (own_w hw 10 rfl) e0 (g := (mkF m 7 #[.val (.ref a1), .val (.int (0 : Int32)), .val (.int (Int32.ofNat i))] [])) rfl (hb hby d22_7) (by decide) (by decide)
    obtain ⟨b_3, g_3⟩ : ∃ z, z = h0.size := ⟨_, rfl⟩
    rw [← g_3] at A_3 D_3 st_3
    have F_4 : Fld Z h_3 b_3 "java/lang/String" "coder" "B" (.int (0 : Int32)) := D_3 (Or.inr (own_w hw 34 rfl)) (ty := .byte) (by decide)
    have F_5 : Fld Z h_3 b_3 "java/lang/String" "value" "[B" .null := D_3 (Or.inr (own_w hw 36 rfl)) (ty := (.array .byte)) (by decide)
    refine own_via st_3 ?_
    show own_Go p e below _ (T_3.setTop (mkF m 10 #[.val (.ref a1), .val (.int (0 : Int32)), .val (.int (Int32.ofNat i))] [(.ref b_3)]))
    refine own_via (fun _ => XS.dup X_3.here hx rfl (hb hby d22_10) rfl rfl) ?_
    show own_Go p e below _ (T_3.setTop (mkF m 11 #[.val (.ref a1), .val (.int (0 : Int32)), .val (.int (Int32.ofNat i))] [(.ref b_3), (.ref b_3)]))
    refine own_via (fun _ => XS.aloadN X_3.here hx rfl (hb hby d22_11) rfl rfl) ?_
    show own_Go p e below _ (T_3.setTop (mkF m 12 #[.val (.ref a1), .val (.int (0 : Int32)), .val (.int (Int32.ofNat i))] [(.ref a1), (.ref b_3), (.ref b_3)]))
    refine own_via (fun _ => XS.iloadN X_3.here hx rfl (hb hby d22_12) rfl) ?_
    show own_Go p e below _ (T_3.setTop (mkF m 13 #[.val (.ref a1), .val (.int (0 : Int32)), .val (.int (Int32.ofNat i))] [(.int (0 : Int32)), (.ref a1), (.ref b_3), (.ref b_3)]))
    refine own_via (fun _ => XS.iloadN X_3.here hx rfl (hb hby d22_13) rfl) ?_
    show own_Go p e below _ (T_3.setTop (mkF m 14 #[.val (.ref a1), .val (.int (0 : Int32)), .val (.int (Int32.ofNat i))] [(.int (0 : Int32)), (.int (0 : Int32)), (.ref a1), (.ref b_3), (.ref b_3)]))
    refine own_via (fun _ => XS.iloadN X_3.here hx rfl (hb hby d22_14) rfl) ?_
    show own_Go p e below _ (T_3.setTop (mkF m 15 #[.val (.ref a1), .val (.int (0 : Int32)), .val (.int (Int32.ofNat i))] [(.int (Int32.ofNat i)), (.int (0 : Int32)), (.int (0 : Int32)), (.ref a1), (.ref b_3), (.ref b_3)]))
    refine own_via (fun _ => XS.iadd X_3.here hx rfl (hb hby d22_15) rfl) ?_
    show own_Go p e below _ (T_3.setTop (mkF m 16 #[.val (.ref a1), .val (.int (0 : Int32)), .val (.int (Int32.ofNat i))] [(.int ((0 : Int32) + (Int32.ofNat i))), (.int (0 : Int32)), (.ref a1), (.ref b_3), (.ref b_3)]))
    rw [own_add0]
    show own_Go p e below _ (T_3.setTop (mkF m 16 #[.val (.ref a1), .val (.int (0 : Int32)), .val (.int (Int32.ofNat i))] [(.int (Int32.ofNat i)), (.int (0 : Int32)), (.ref a1), (.ref b_3), (.ref b_3)]))
    have K_6 : Keep h0 h_3 [] := (Keep.refl h0 []).ext E_3
    obtain ⟨_, _, ⟨T_7, L_7, k_7, n_7⟩, -, X_7, ⟨Lc_7, hQ_7, l_7, y_7, z_7⟩, st_7⟩ := Jvm.LawKit.callS X_3 hx (y := (⟨"java/util/Arrays", "copyOfRange", "([BII)[B"⟩ : MethodName)) hown (mvT hZ (own_w hw 102 rfl)) (mvT hZ (own_w hw 103 rfl)) (mvT hZ (own_w hw 104 rfl)) (mvT hZ (own_w hw 105 rfl)) (by decide) (backOf (W := 2) (rmcor l Z a0 hw [] a1 k1 (ds.map fun c => c.toInt8.toInt32) (Int32.ofNat ds.length) i h_3 n0 (Nat.le_trans Z0 K_6.1) (A1.keep K_6 nin0) (by simp) (by simpa using hl) (by simpa using hi)) hZ (own_w hw 105 rfl) (own_w hw 104 rfl) (by decide) (by decide)) (g := (mkF m 16 #[.val (.ref a1), .val (.int (0 : Int32)), .val (.int (Int32.ofNat i))] [(.int (Int32.ofNat i)), (.int (0 : Int32)), (.ref a1), (.ref b_3), (.ref b_3)])) rfl (by rw [hml]; rfl) (argsL := [(.ref a1), (.int (0 : Int32)), (.int (Int32.ofNat i))]) (rest := [(.ref b_3), (.ref b_3)]) (lenOf pd_13 rfl) rfl (by show 2 * 0 + _ ≤ _; exact Nat.le_of_eq rfl) (hb hby d22_16) (fun _ _ => ⟨rfl, e_3, (by decide : 1 + 1 ≤ _), (by decide : 4 + 6 ≤ _)⟩)
    dsimp only [Pt.U, Pt.locs, Pt.cells, Pt.slots] at X_7 l_7 y_7 z_7 st_7 hQ_7
    subst l_7 y_7 z_7
    obtain ⟨r_8, u_9, rfl, Nq_7, K_7q, q_7_0, q_7_1⟩ := hQ_7
    have N_7 := Fr.app N0 Nq_7
    refine own_via st_7 ?_
    show own_Go p e below _ (T_7.setTop (mkF m 19 #[.val (.ref a1), .val (.int (0 : Int32)), .val (.int (Int32.ofNat i))] [(.ref r_8), (.ref b_3), (.ref b_3)]))
    refine own_via (fun _ => XS.iconst X_7.here hx rfl (hb hby d22_19)) ?_
    show own_Go p e below _ (T_7.setTop (mkF m 20 #[.val (.ref a1), .val (.int (0 : Int32)), .val (.int (Int32.ofNat i))] [(.int (0 : Int32)), (.ref r_8), (.ref b_3), (.ref b_3)]))
    have K_10 : Keep h_3 T_7.heap [] := Keep.trans (ws := []) (Keep.refl h_3 []) K_7q all0
    have K_11 : Keep h0 T_7.heap [] := Keep.trans (ws := []) K_6 K_7q all0
    obtain ⟨_, _, ⟨T_12, L_12, k_12, n_12⟩, -, X_12, ⟨Lc_12, hQ_12, l_12, y_12, z_12⟩, st_12⟩ := X_7.specialBack hx (y := (⟨"java/lang/String", "<init>", "([BB)V"⟩ : MethodName)) rfl hown (mvT hZ (own_w hw 120 rfl)) (mvT hZ (own_w hw 121 rfl)) (mvT hZ (own_w hw 122 rfl)) (by decide) (backOf (W := 1) (rmstrBB l Z a0 hw [] b_3 r_8 T_7.heap n0 (Nat.le_trans Z0 K_11.1) (A_3.keep K_10) (F_5.keep K_10 nin0) (F_4.keep K_10 nin0) (Nat.le_trans Z0 (Nat.le_of_eq g_3.symm))) hZ (own_w hw 122 rfl) (own_w hw 10 rfl) (by decide) (by decide)) (g := (mkF m 20 #[.val (.ref a1), .val (.int (0 : Int32)), .val (.int (Int32.ofNat i))] [(.int (0 : Int32)), (.ref r_8), (.ref b_3), (.ref b_3)])) rfl (by rw [hml]; rfl) (Steps.refl _) (a := b_3) (argsL := [(.ref r_8), (.int (0 : Int32))]) (rest := [(.ref b_3)]) (lenOf pd_14 rfl) rfl (by show 2 * 0 + _ ≤ _; exact Nat.le_of_eq rfl) (hb hby d22_20) (fun _ _ => ⟨rfl, rfl, (by decide : 2 + 0 ≤ _), (by decide : 10 + 0 ≤ _)⟩)
    dsimp only [Pt.U, Pt.locs, Pt.cells, Pt.slots] at X_12 l_12 y_12 z_12 st_12 hQ_12
    subst l_12 y_12 z_12
    obtain ⟨rfl, Nq_12, K_12q, q_12_0, q_12_1⟩ := hQ_12
    have N_12 := Fr.app N_7 Nq_12
    refine own_via (fun _ k => st_12.trans k) ?_
    show own_Go p e below _ (T_12.setTop (mkF m 23 #[.val (.ref a1), .val (.int (0 : Int32)), .val (.int (Int32.ofNat i))] [(.ref b_3)]))
    have K_13 : Keep h_3 T_12.heap [b_3] := Keep.trans (ws := [b_3]) (own_keep_mono K_10 (by simp)) K_12q (allS (Or.inl (List.mem_of_getElem? (i := 0) rfl)) all0)
    have K_14 : Keep T_7.heap T_12.heap [b_3] := Keep.trans (ws := [b_3]) (own_keep_mono (Keep.refl T_7.heap []) (by simp)) K_12q (allS (Or.inl (List.mem_of_getElem? (i := 0) rfl)) all0)
    have K_15 : Keep h0 T_12.heap [] := Keep.trans (ws := []) K_11 K_12q (allS (Or.inr (Nat.le_of_eq g_3.symm)) all0)
    exact own_retvW X_12 hS0 (Nat.le_trans (Nat.zero_le _) K_15.1) Bd.notSynchronized hx Bd.returns rfl (Or.inr (Or.inr (Or.inr (Or.inr ⟨rfl, rfl, rfl⟩)))) (hb hby d22_23) (by decide) (by decide) ⟨b_3, rfl, N_12, K_15, (A_3.keep K_13), own_mkStr (A_3.keep K_13) q_12_1 q_12_0 (q_7_1.keep K_14 (ninS (Ne.symm (Nat.ne_of_lt (Nat.lt_of_lt_of_le A_3.lt q_7_0))) nin0)) hi hl hd, (own_CHstay (J0.keep K_15 all0) hZ (own_EW hw) X_12.warmed)⟩
theorem d18_0 : decode jdk_42_method_92_code 0 = .ok (.aload_n 0, 1) := by decide +kernel
theorem d18_1 : decode jdk_42_method_92_code 1 = .ok (.invokevirtual 505, 3) := by decide +kernel
theorem d18_4 : decode jdk_42_method_92_code 4 = .ok (.istore_n 3, 1) := by decide +kernel
theorem d18_5 : decode jdk_42_method_92_code 5 = .ok (.iload_n 1, 1) := by decide +kernel
theorem d18_6 : decode jdk_42_method_92_code 6 = .ok (.iload_n 2, 1) := by decide +kernel
theorem d18_7 : decode jdk_42_method_92_code 7 = .ok (.iload_n 3, 1) := by decide +kernel
theorem d18_8 : decode jdk_42_method_92_code 8 = .ok (.invokestatic 521, 3) := by decide +kernel
theorem d18_11 : decode jdk_42_method_92_code 11 = .ok (.iload_n 1, 1) := by decide +kernel
theorem d18_12 : decode jdk_42_method_92_code 12 = .ok (.ifCond .ne 10, 3) := by decide +kernel
theorem d18_15 : decode jdk_42_method_92_code 15 = .ok (.iload_n 2, 1) := by decide +kernel
theorem d18_16 : decode jdk_42_method_92_code 16 = .ok (.iload_n 3, 1) := by decide +kernel
theorem d18_17 : decode jdk_42_method_92_code 17 = .ok (.if_icmp .ne 5, 3) := by decide +kernel
theorem d18_20 : decode jdk_42_method_92_code 20 = .ok (.aload_n 0, 1) := by decide +kernel
theorem d18_21 : decode jdk_42_method_92_code 21 = .ok (.areturn, 1) := by decide +kernel
theorem d18_22 : decode jdk_42_method_92_code 22 = .ok (.iload_n 2, 1) := by decide +kernel
theorem d18_23 : decode jdk_42_method_92_code 23 = .ok (.iload_n 1, 1) := by decide +kernel
theorem d18_24 : decode jdk_42_method_92_code 24 = .ok (.isub, 1) := by decide +kernel
theorem d18_25 : decode jdk_42_method_92_code 25 = .ok (.istore 4, 2) := by decide +kernel
theorem d18_27 : decode jdk_42_method_92_code 27 = .ok (.aload_n 0, 1) := by decide +kernel
theorem d18_28 : decode jdk_42_method_92_code 28 = .ok (.invokevirtual 492, 3) := by decide +kernel
theorem d18_31 : decode jdk_42_method_92_code 31 = .ok (.ifCond .eq 16, 3) := by decide +kernel
theorem d18_34 : decode jdk_42_method_92_code 34 = .ok (.aload_n 0, 1) := by decide +kernel
theorem d18_35 : decode jdk_42_method_92_code 35 = .ok (.getfield 9, 3) := by decide +kernel
theorem d18_38 : decode jdk_42_method_92_code 38 = .ok (.iload_n 1, 1) := by decide +kernel
theorem d18_39 : decode jdk_42_method_92_code 39 = .ok (.iload 4, 2) := by decide +kernel
theorem d18_41 : decode jdk_42_method_92_code 41 = .ok (.invokestatic 685, 3) := by decide +kernel
theorem d18_44 : decode jdk_42_method_92_code 44 = .ok (.goto 13, 3) := by decide +kernel
theorem d18_47 : decode jdk_42_method_92_code 47 = .ok (.aload_n 0, 1) := by decide +kernel
theorem d18_48 : decode jdk_42_method_92_code 48 = .ok (.getfield 9, 3) := by decide +kernel
theorem d18_51 : decode jdk_42_method_92_code 51 = .ok (.iload_n 1, 1) := by decide +kernel
theorem d18_52 : decode jdk_42_method_92_code 52 = .ok (.iload 4, 2) := by decide +kernel
theorem d18_54 : decode jdk_42_method_92_code 54 = .ok (.invokestatic 689, 3) := by decide +kernel
theorem d18_57 : decode jdk_42_method_92_code 57 = .ok (.areturn, 1) := by decide +kernel
theorem pd_15 : parseMethodDescriptor "()I" = some ⟨[], some .int⟩ := by decide +kernel
theorem pd_16 : parseMethodDescriptor "(III)V" = some ⟨[.int, .int, .int], none⟩ := by decide +kernel
theorem pd_17 : parseMethodDescriptor "([BII)Ljava/lang/String;" = some ⟨[(.array .byte), .int, .int], some (.object "java/lang/String")⟩ := by decide +kernel
theorem ef_substring (m : MethodId) (a1 : Addr) : entryFrame m #[(.ref a1), (.int (0 : Int32)), (.int (Int32.ofNat i))] 5 = mkF m 0 #[.val (.ref a1), .val (.int (0 : Int32)), .val (.int (Int32.ofNat i)), .unset, .unset] [] := by first | (simp [entryFrame, mkF, argsToLocals, Value.category]; done) | rfl
def Qsubstring (Z : State) (a1 : Addr) (ds : List Int32) (i : Nat) (cs : Int32) (sf : Value) (h0 : Heap) (n0 : Nat) (v : Option Value) (h : Heap) (L : List Loc) (vm : Vm) : Prop := ∃ r : Addr, v = some (.ref r) ∧ Fr n0 L ∧ Keep h0 h [] ∧ (Exa Z h r "java/lang/String") ∧ (own_Str Z h r (ds.take i)) ∧ (CHv Z consts_1 vm h)
set_option maxRecDepth 65536 in
set_option maxHeartbeats 40000000 in
theorem rmsubstring (l : Launch) (Z : State) (a0 : Array Value) (hw : ∀ d ∈ tables_1, d.before a0 Z = true) (ws : List Jvm.Cond) (a1 : Addr) (ds : List Int32) (i : Nat) (cs : Int32) (sf : Value) (h0 : Heap) (n0 : Nat) (Z0 : n0 ≤ h0.size) (O0 : Old Z n0 h0) (Scs : Sta Z Z.heap "java/lang/String" "COMPACT_STRINGS" "Z" (.int cs)) (hcs : ¬ (cs = (0 : Int32))) (Ssf : Sta Z Z.heap "jdk/internal/util/Preconditions" "SIOOBE_FORMATTER" "Ljava/util/function/BiFunction;" sf) (hsf : sf.isRef = true) (S1 : own_Str Z h0 a1 ds) (hl : ds.length ≤ 6) (hi : i < ds.length) :
    MetFree l (⟨"java/lang/String", "substring", "(II)Ljava/lang/String;"⟩ : MethodName) (head1 (Jvm.Cond.code (⟨"java/lang/String", "substring", "(II)Ljava/lang/String;"⟩ : MethodName) jdk_42_method_92_code 5 (some (.object "java/lang/String")) :: ws) ({ frames := 4, cells := 4, slots := 14, locals := 92 } : Room)) (fun a U => a = #[(.ref a1), (.int (0 : Int32)), (.int (Int32.ofNat i))] ∧ Z.Warmed39 U.vm ∧ U.heap = h0 ∧ CHv Z consts_1 U.vm h0) (fun _ _ _ _ _ => True) (fun _ U o U' => ∃ v L, o = .returned v ∧ Qsubstring Z a1 ds i cs sf h0 n0 v U'.heap L U'.vm ∧ ReturnedEndW U o U' L ({ frames := 4, cells := 4, slots := 14, locals := 92 } : Room).cells ({ frames := 4, cells := 4, slots := 14, locals := 92 } : Room).slots) := by
  refine MetFree.of_bodySF (plainFor_of_name pn_java_lang_String) hisR ?_
  intro p e s m args below meth c s₁ Bd hml0 hP hK
  obtain ⟨rfl, hZ, hH0, J0⟩ := hP
  have hx := Bd.exec
  have hby := Bd.bytes
  have hml : c.maxLocals = 5 := hml0
  have hown : s.vm.findClass "java/lang/String" = some m.cls := findClass_of_methodNamed Bd.named
  have hnm := (name_of_methodNamed Bd.named Bd.method).1
  have X0 : Stand p l e ({ frames := 4, cells := 4, slots := 14, locals := 92 } : Room) (s.setVm s.vm) m #[(.ref a1), (.int (0 : Int32)), (.int (Int32.ofNat i))] below meth c s₁ [] 0 0 := Stand.of_body Bd
  have hS0 : s.Since s.vm 0 := (State.WarmedH.refl s).since 0
  have e0 : s₁.heap = h0 := by rw [← hH0, Bd.state]; rfl
  have N0 := Fr.nil n0
  refine own_cast (ef_substring m a1) ?_
  show own_Go p e below (fun o U' => ∃ v L, o = .returned v ∧ Qsubstring Z a1 ds i cs sf h0 n0 v U'.heap L U'.vm ∧ ReturnedEndW s o U' L ({ frames := 4, cells := 4, slots := 14, locals := 92 } : Room).cells ({ frames := 4, cells := 4, slots := 14, locals := 92 } : Room).slots) (s₁.setTop (mkF m 0 #[.val (.ref a1), .val (.int (0 : Int32)), .val (.int (Int32.ofNat i)), .unset, .unset] []))
  obtain ⟨E1, C1, ⟨t1, k1, V1, B1⟩, hd, -⟩ := S1
  refine own_via (fun _ => XS.aloadN X0.here hx rfl (hb hby d18_0) rfl rfl) ?_
  show own_Go p e below _ (s₁.setTop (mkF m 1 #[.val (.ref a1), .val (.int (0 : Int32)), .val (.int (Int32.ofNat i)), .unset, .unset] [(.ref a1)]))
  obtain ⟨cq_1, kq_1, q_1a, q_1b, q_1c⟩ := isOf hZ e0 E1
  obtain ⟨_, _, ⟨T_1, L_1, k_1, n_1⟩, -, X_1, ⟨Lc_1, hQ_1, l_1, y_1, z_1⟩, st_1⟩ := X0.virtualBack hx (y := (⟨"java/lang/String", "length", "()I"⟩ : MethodName)) (z := (⟨"java/lang/String", "length", "()I"⟩ : MethodName)) hown (mvT hZ (own_w hw 84 rfl)) (mvT hZ (own_w hw 85 rfl)) (notFace_of_selects (args := #[]) (mvT hZ (own_w hw 87 rfl))) (mvT hZ (own_w hw 87 rfl)) (mvT hZ (own_w hw 86 rfl)) (by decide) (backOf (W := 0) (rmlength l Z a0 hw [] a1 t1 k1 (Int32.ofNat ds.length) ((ds.map fun c => c.toInt8.toInt32).map Value.int) cs h0 n0 Z0 O0 Scs hcs E1 C1 V1 B1) hZ (own_w hw 88 rfl) (own_w hw 10 rfl) (by decide) (by decide)) q_1a q_1c (g := (mkF m 1 #[.val (.ref a1), .val (.int (0 : Int32)), .val (.int (Int32.ofNat i)), .unset, .unset] [(.ref a1)])) rfl (by rw [hml]; rfl) (Steps.refl _) (argsL := []) (rest := []) (lenOf pd_15 rfl) rfl (by show 2 * 0 + _ ≤ _; exact Nat.le_of_eq rfl) (hb hby d18_1) (fun _ _ => ⟨rfl, e0, (by decide : 0 + 0 ≤ _), (by decide : 0 + 0 ≤ _)⟩)
  dsimp only [Pt.U, Pt.locs, Pt.cells, Pt.slots] at X_1 l_1 y_1 z_1 st_1 hQ_1
  subst l_1 y_1 z_1
  obtain ⟨rfl, Nq_1, e_1⟩ := hQ_1
  have N_1 := Fr.app N0 Nq_1
  refine own_via (fun _ k => st_1.trans k) ?_
  show own_Go p e below _ (T_1.setTop (mkF m 4 #[.val (.ref a1), .val (.int (0 : Int32)), .val (.int (Int32.ofNat i)), .unset, .unset] [(.int (Int32.ofNat ds.length))]))
  refine own_via (fun _ => XS.istoreN X_1.here hx rfl (hb hby d18_4) rfl (l' := #[.val (.ref a1), .val (.int (0 : Int32)), .val (.int (Int32.ofNat i)), .val (.int (Int32.ofNat ds.length)), .unset]) rfl) ?_
  show own_Go p e below _ (T_1.setTop (mkF m 5 #[.val (.ref a1), .val (.int (0 : Int32)), .val (.int (Int32.ofNat i)), .val (.int (Int32.ofNat ds.length)), .unset] []))
  refine own_via (fun _ => XS.iloadN X_1.here hx rfl (hb hby d18_5) rfl) ?_
  show own_Go p e below _ (T_1.setTop (mkF m 6 #[.val (.ref a1), .val (.int (0 : Int32)), .val (.int (Int32.ofNat i)), .val (.int (Int32.ofNat ds.length)), .unset] [(.int (0 : Int32))]))
  refine own_via (fun _ => XS.iloadN X_1.here hx rfl (hb hby d18_6) rfl) ?_
  show own_Go p e below _ (T_1.setTop (mkF m 7 #[.val (.ref a1), .val (.int (0 : Int32)), .val (.int (Int32.ofNat i)), .val (.int (Int32.ofNat ds.length)), .unset] [(.int (Int32.ofNat i)), (.int (0 : Int32))]))
  refine own_via (fun _ => XS.iloadN X_1.here hx rfl (hb hby d18_7) rfl) ?_
  show own_Go p e below _ (T_1.setTop (mkF m 8 #[.val (.ref a1), .val (.int (0 : Int32)), .val (.int (Int32.ofNat i)), .val (.int (Int32.ofNat ds.length)), .unset] [(.int (Int32.ofNat ds.length)), (.int (Int32.ofNat i)), (.int (0 : Int32))]))
  obtain ⟨_, _, ⟨T_2, L_2, k_2, n_2⟩, -, X_2, ⟨Lc_2, hQ_2, l_2, y_2, z_2⟩, st_2⟩ := Jvm.LawKit.callS X_1 hx (y := (⟨"java/lang/String", "checkBoundsBeginEnd", "(III)V"⟩ : MethodName)) hown (mvT hZ (own_w hw 89 rfl)) (mvT hZ (own_w hw 90 rfl)) (mvT hZ (own_w hw 10 rfl)) (mvT hZ (own_w hw 91 rfl)) (by decide) (backOf (W := 0) (rmcbbe l Z a0 hw [] (Int32.ofNat i) (Int32.ofNat ds.length) sf h0 n0 Z0 O0 Ssf hsf (own_nn (by omega)) (fun q => absurd ((own_lt (by omega) (by omega)).mp q) (by omega))) hZ (own_w hw 91 rfl) (own_w hw 10 rfl) (by decide) (by decide)) (g := (mkF m 8 #[.val (.ref a1), .val (.int (0 : Int32)), .val (.int (Int32.ofNat i)), .val (.int (Int32.ofNat ds.length)), .unset] [(.int (Int32.ofNat ds.length)), (.int (Int32.ofNat i)), (.int (0 : Int32))])) rfl (by rw [hml]; rfl) (argsL := [(.int (0 : Int32)), (.int (Int32.ofNat i)), (.int (Int32.ofNat ds.length))]) (rest := []) (lenOf pd_16 rfl) rfl (by show 2 * 0 + _ ≤ _; exact Nat.le_of_eq rfl) (hb hby d18_8) (fun _ _ => ⟨rfl, e_1, (by decide : 0 + 0 ≤ _), (by decide : 0 + 0 ≤ _)⟩)
  dsimp only [Pt.U, Pt.locs, Pt.cells, Pt.slots] at X_2 l_2 y_2 z_2 st_2 hQ_2
  subst l_2 y_2 z_2
  obtain ⟨rfl, Nq_2, e_2⟩ := hQ_2
  have N_2 := Fr.app N_1 Nq_2
  refine own_via st_2 ?_
  show own_Go p e below _ (T_2.setTop (mkF m 11 #[.val (.ref a1), .val (.int (0 : Int32)), .val (.int (Int32.ofNat i)), .val (.int (Int32.ofNat ds.length)), .unset] []))
  refine own_via (fun _ => XS.iloadN X_2.here hx rfl (hb hby d18_11) rfl) ?_
  show own_Go p e below _ (T_2.setTop (mkF m 12 #[.val (.ref a1), .val (.int (0 : Int32)), .val (.int (Int32.ofNat i)), .val (.int (Int32.ofNat ds.length)), .unset] [(.int (0 : Int32))]))
  refine own_via (fun _ => XS.ifNo X_2.here hx rfl (hb hby d18_12) rfl ((if0 _ _).trans (teq ((by decide) : (0 : Int32) = (0 : Int32))).2)) ?_
  show own_Go p e below _ (T_2.setTop (mkF m 15 #[.val (.ref a1), .val (.int (0 : Int32)), .val (.int (Int32.ofNat i)), .val (.int (Int32.ofNat ds.length)), .unset] []))
  refine own_via (fun _ => XS.iloadN X_2.here hx rfl (hb hby d18_15) rfl) ?_
  show own_Go p e below _ (T_2.setTop (mkF m 16 #[.val (.ref a1), .val (.int (0 : Int32)), .val (.int (Int32.ofNat i)), .val (.int (Int32.ofNat ds.length)), .unset] [(.int (Int32.ofNat i))]))
  refine own_via (fun _ => XS.iloadN X_2.here hx rfl (hb hby d18_16) rfl) ?_
  show own_Go p e below _ (T_2.setTop (mkF m 17 #[.val (.ref a1), .val (.int (0 : Int32)), .val (.int (Int32.ofNat i)), .val (.int (Int32.ofNat ds.length)), .unset] [(.int (Int32.ofNat ds.length)), (.int (Int32.ofNat i))]))
  refine own_via (fun _ => XS.icmpYes X_2.here hx rfl (pc0 := 17) (pc' := 22) rfl (hb hby d18_17) rfl (feq (fun q => absurd ((own_eq (by omega) (by omega)).mp q) (by omega) : ¬ ((Int32.ofNat i) = (Int32.ofNat ds.length)))).2 (by decide) (by decide)) ?_
  show own_Go p e below _ (T_2.setTop (mkF m 22 #[.val (.ref a1), .val (.int (0 : Int32)), .val (.int (Int32.ofNat i)), .val (.int (Int32.ofNat ds.length)), .unset] []))
  refine own_via (fun _ => XS.iloadN X_2.here hx rfl (hb hby d18_22) rfl) ?_
  show own_Go p e below _ (T_2.setTop (mkF m 23 #[.val (.ref a1), .val (.int (0 : Int32)), .val (.int (Int32.ofNat i)), .val (.int (Int32.ofNat ds.length)), .unset] [(.int (Int32.ofNat i))]))
  refine own_via (fun _ => XS.iloadN X_2.here hx rfl (hb hby d18_23) rfl) ?_
  show own_Go p e below _ (T_2.setTop (mkF m 24 #[.val (.ref a1), .val (.int (0 : Int32)), .val (.int (Int32.ofNat i)), .val (.int (Int32.ofNat ds.length)), .unset] [(.int (0 : Int32)), (.int (Int32.ofNat i))]))
  refine own_via (fun _ => XS.isub X_2.here hx rfl (hb hby d18_24) rfl) ?_
  show own_Go p e below _ (T_2.setTop (mkF m 25 #[.val (.ref a1), .val (.int (0 : Int32)), .val (.int (Int32.ofNat i)), .val (.int (Int32.ofNat ds.length)), .unset] [(.int ((Int32.ofNat i) - (0 : Int32)))]))
  rw [own_sub0]
  show own_Go p e below _ (T_2.setTop (mkF m 25 #[.val (.ref a1), .val (.int (0 : Int32)), .val (.int (Int32.ofNat i)), .val (.int (Int32.ofNat ds.length)), .unset] [(.int (Int32.ofNat i))]))
  refine own_via (fun _ => XS.istore X_2.here hx rfl (hb hby d18_25) rfl (l' := #[.val (.ref a1), .val (.int (0 : Int32)), .val (.int (Int32.ofNat i)), .val (.int (Int32.ofNat ds.length)), .val (.int (Int32.ofNat i))]) rfl) ?_
  show own_Go p e below _ (T_2.setTop (mkF m 27 #[.val (.ref a1), .val (.int (0 : Int32)), .val (.int (Int32.ofNat i)), .val (.int (Int32.ofNat ds.length)), .val (.int (Int32.ofNat i))] []))
  refine own_via (fun _ => XS.aloadN X_2.here hx rfl (hb hby d18_27) rfl rfl) ?_
  show own_Go p e below _ (T_2.setTop (mkF m 28 #[.val (.ref a1), .val (.int (0 : Int32)), .val (.int (Int32.ofNat i)), .val (.int (Int32.ofNat ds.length)), .val (.int (Int32.ofNat i))] [(.ref a1)]))
  obtain ⟨cq_3, kq_3, q_3a, q_3b, q_3c⟩ := isOf hZ e_2 E1
  obtain ⟨_, _, ⟨T_3, L_3, k_3, n_3⟩, -, X_3, ⟨Lc_3, hQ_3, l_3, y_3, z_3⟩, st_3⟩ := X_2.virtualBack hx (y := (⟨"java/lang/String", "isLatin1", "()Z"⟩ : MethodName)) (z := (⟨"java/lang/String", "isLatin1", "()Z"⟩ : MethodName)) hown (mvT hZ (own_w hw 57 rfl)) (mvT hZ (own_w hw 58 rfl)) (notFace_of_selects (args := #[]) (mvT hZ (own_w hw 60 rfl))) (mvT hZ (own_w hw 60 rfl)) (mvT hZ (own_w hw 59 rfl)) (by decide) (backOf (W := 0) (rmisLatin1 l Z a0 hw [] a1 cs h0 n0 Z0 O0 Scs hcs C1) hZ (own_w hw 61 rfl) (own_w hw 10 rfl) (by decide) (by decide)) q_3a q_3c (g := (mkF m 28 #[.val (.ref a1), .val (.int (0 : Int32)), .val (.int (Int32.ofNat i)), .val (.int (Int32.ofNat ds.length)), .val (.int (Int32.ofNat i))] [(.ref a1)])) rfl (by rw [hml]; rfl) (Steps.refl _) (argsL := []) (rest := []) (lenOf pd_7 rfl) rfl (by show 2 * 0 + _ ≤ _; exact Nat.le_of_eq rfl) (hb hby d18_28) (fun _ _ => ⟨rfl, e_2, (by decide : 0 + 0 ≤ _), (by decide : 0 + 0 ≤ _)⟩)
  dsimp only [Pt.U, Pt.locs, Pt.cells, Pt.slots] at X_3 l_3 y_3 z_3 st_3 hQ_3
  subst l_3 y_3 z_3
  obtain ⟨rfl, Nq_3, e_3⟩ := hQ_3
  have N_3 := Fr.app N_2 Nq_3
  refine own_via (fun _ k => st_3.trans k) ?_
  show own_Go p e below _ (T_3.setTop (mkF m 31 #[.val (.ref a1), .val (.int (0 : Int32)), .val (.int (Int32.ofNat i)), .val (.int (Int32.ofNat ds.length)), .val (.int (Int32.ofNat i))] [(.int (1 : Int32))]))
  refine own_via (fun _ => XS.ifNo X_3.here hx rfl (hb hby d18_31) rfl ((if0 _ _).trans (feq ((by decide) : ¬ ((1 : Int32) = (0 : Int32)))).1)) ?_
  show own_Go p e below _ (T_3.setTop (mkF m 34 #[.val (.ref a1), .val (.int (0 : Int32)), .val (.int (Int32.ofNat i)), .val (.int (Int32.ofNat ds.length)), .val (.int (Int32.ofNat i))] []))
  refine own_via (fun _ => XS.aloadN X_3.here hx rfl (hb hby d18_34) rfl rfl) ?_
  show own_Go p e below _ (T_3.setTop (mkF m 35 #[.val (.ref a1), .val (.int (0 : Int32)), .val (.int (Int32.ofNat i)), .val (.int (Int32.ofNat ds.length)), .val (.int (Int32.ofNat i))] [(.ref a1)]))
  obtain ⟨T_4, X_4, e_4, st_4⟩ := getF X_3 hx hZ hown (host := "") (Or.inl (own_w hw 35 rfl)) Via.refl e_3 V1 (g := (mkF m 35 #[.val (.ref a1), .val (.int (0 : Int32)), .val (.int (Int32.ofNat i)), .val (.int (Int32.ofNat ds.length)), .val (.int (Int32.ofNat i))] [(.ref a1)])) rfl rfl (hb hby d18_35)
  refine own_via st_4 ?_
  show own_Go p e below _ (T_4.setTop (mkF m 38 #[.val (.ref a1), .val (.int (0 : Int32)), .val (.int (Int32.ofNat i)), .val (.int (Int32.ofNat ds.length)), .val (.int (Int32.ofNat i))] [(.ref t1)]))
  refine own_via (fun _ => XS.iloadN X_4.here hx rfl (hb hby d18_38) rfl) ?_
  show own_Go p e below _ (T_4.setTop (mkF m 39 #[.val (.ref a1), .val (.int (0 : Int32)), .val (.int (Int32.ofNat i)), .val (.int (Int32.ofNat ds.length)), .val (.int (Int32.ofNat i))] [(.int (0 : Int32)), (.ref t1)]))
  refine own_via (fun _ => XS.iload X_4.here hx rfl (hb hby d18_39) rfl) ?_
  show own_Go p e below _ (T_4.setTop (mkF m 41 #[.val (.ref a1), .val (.int (0 : Int32)), .val (.int (Int32.ofNat i)), .val (.int (Int32.ofNat ds.length)), .val (.int (Int32.ofNat i))] [(.int (Int32.ofNat i)), (.int (0 : Int32)), (.ref t1)]))
  obtain ⟨_, _, ⟨T_5, L_5, k_5, n_5⟩, -, Xc_5, hSc_5, hgc_5, ⟨Lc_5, hQ_5, l_5, y_5, z_5⟩, st_5⟩ := callSS X_4 hx (y := (⟨"java/lang/StringLatin1", "newString", "([BII)Ljava/lang/String;"⟩ : MethodName)) hown (mvT hZ (own_w hw 97 rfl)) (mvT hZ (own_w hw 98 rfl)) (mvT hZ (own_w hw 64 rfl)) (mvT hZ (own_w hw 99 rfl)) (by decide) (own_backS (J := fun vm_ => CHv Z consts_1 vm_ h0) (W := 0) (rmnewString l Z a0 hw [] t1 k1 ds i h0 n0 Z0 O0 B1 hl hi hd) hZ (own_w hw 99 rfl) (own_w hw 64 rfl) (by decide) (by decide)) (g := (mkF m 41 #[.val (.ref a1), .val (.int (0 : Int32)), .val (.int (Int32.ofNat i)), .val (.int (Int32.ofNat ds.length)), .val (.int (Int32.ofNat i))] [(.int (Int32.ofNat i)), (.int (0 : Int32)), (.ref t1)])) rfl (by rw [hml]; rfl) (argsL := [(.ref t1), (.int (0 : Int32)), (.int (Int32.ofNat i))]) (rest := []) (lenOf pd_17 rfl) rfl (by show 2 * 0 + _ ≤ _; exact Nat.le_of_eq rfl) (hb hby d18_41) (fun _ hW1 => ⟨rfl, e_4, (own_CHstay J0 hZ (own_EW hw) hW1), (by decide : 0 + 4 ≤ _), (by decide : 0 + 14 ≤ _)⟩)
  dsimp only [Pt.U, Pt.locs, Pt.cells, Pt.slots] at Xc_5 hSc_5 hgc_5 l_5 y_5 z_5 st_5 hQ_5
  subst l_5 y_5 z_5
  obtain ⟨X_5, hS_5, hZ_5, ho_5⟩ := rebS hS0 (by rw [e_4]; exact (Nat.zero_le _)) Xc_5 hSc_5 hgc_5 hZ hown
  obtain ⟨r_6, rfl, Nq_5, K_5q, q_5_0, q_5_1, J_5⟩ := hQ_5
  have N_5 := Fr.app N_3 Nq_5
  refine own_via (fun _ k => st_5.trans k) ?_
  show own_Go p e below _ (T_5.setTop (mkF m 44 #[.val (.ref a1), .val (.int (0 : Int32)), .val (.int (Int32.ofNat i)), .val (.int (Int32.ofNat ds.length)), .val (.int (Int32.ofNat i))] [(.ref r_6)]))
  refine own_via (fun _ => XS.goto X_5.here hx rfl (pc0 := 44) (pc' := 57) rfl (hb hby d18_44) (by decide) (by decide)) ?_
  show own_Go p e below _ (T_5.setTop (mkF m 57 #[.val (.ref a1), .val (.int (0 : Int32)), .val (.int (Int32.ofNat i)), .val (.int (Int32.ofNat ds.length)), .val (.int (Int32.ofNat i))] [(.ref r_6)]))
  have K_7 : Keep h0 T_5.heap [] := Keep.trans (ws := []) (Keep.refl h0 []) K_5q all0
  exact own_retvW X_5 hS_5 (Nat.le_refl _) Bd.notSynchronized hx Bd.returns rfl (Or.inr (Or.inr (Or.inr (Or.inr ⟨rfl, rfl, rfl⟩)))) (hb hby d18_57) (by decide) (by decide) ⟨r_6, rfl, N_5, K_7, q_5_0, q_5_1, (own_CHstay J_5 hZ_5 (own_EW hw) X_5.warmed)⟩
theorem d10_0 : decode prog_5_method_4_code 0 = .ok (.aload_n 0, 1) := by decide +kernel
theorem d10_1 : decode prog_5_method_4_code 1 = .ok (.ldc 75, 2) := by decide +kernel
theorem d10_3 : decode prog_5_method_4_code 3 = .ok (.invokevirtual 77, 3) := by decide +kernel
theorem d10_6 : decode prog_5_method_4_code 6 = .ok (.istore_n 1, 1) := by decide +kernel
theorem d10_7 : decode prog_5_method_4_code 7 = .ok (.iload_n 1, 1) := by decide +kernel
theorem d10_8 : decode prog_5_method_4_code 8 = .ok (.ifCond .ge 7, 3) := by decide +kernel
theorem d10_11 : decode prog_5_method_4_code 11 = .ok (.aload_n 0, 1) := by decide +kernel
theorem d10_12 : decode prog_5_method_4_code 12 = .ok (.goto 9, 3) := by decide +kernel
theorem d10_15 : decode prog_5_method_4_code 15 = .ok (.aload_n 0, 1) := by decide +kernel
theorem d10_16 : decode prog_5_method_4_code 16 = .ok (.iconst 0, 1) := by decide +kernel
theorem d10_17 : decode prog_5_method_4_code 17 = .ok (.iload_n 1, 1) := by decide +kernel
theorem d10_18 : decode prog_5_method_4_code 18 = .ok (.invokevirtual 83, 3) := by decide +kernel
theorem d10_21 : decode prog_5_method_4_code 21 = .ok (.areturn, 1) := by decide +kernel
theorem pd_18 : parseMethodDescriptor "(Ljava/lang/String;)I" = some ⟨[(.object "java/lang/String")], some .int⟩ := by decide +kernel
theorem pd_19 : parseMethodDescriptor "(II)Ljava/lang/String;" = some ⟨[.int, .int], some (.object "java/lang/String")⟩ := by decide +kernel
theorem pn_com_example_hollow_crown_hollowcrown_instance_InstanceId : plainName "com/example/hollow_crown/hollowcrown/instance/InstanceId" = true := by first | (simp [plainName, overriddenIn]; done) | decide +kernel
theorem ef_ipOf (m : MethodId) (a1 : Addr) : entryFrame m #[(.ref a1)] 2 = mkF m 0 #[.val (.ref a1), .unset] [] := by first | (simp [entryFrame, mkF, argsToLocals, Value.category]; done) | rfl
def QipOf (Z : State) (a1 : Addr) (ds : List Int32) (cs : Int32) (sf : Value) (h0 : Heap) (n0 : Nat) (v : Option Value) (h : Heap) (L : List Loc) (vm : Vm) : Prop := ∃ r : Addr, ∃ es : List Int32, v = some (.ref r) ∧ Fr n0 L ∧ Keep h0 h [] ∧ (Exa Z h r "java/lang/String") ∧ (own_Str Z h r es) ∧ ((es = ds ∧ ∀ j, ¬ own_at (ds.map fun c => c.toInt8.toInt32) j) ∨ ∃ i, es = ds.take i ∧ own_at (ds.map fun c => c.toInt8.toInt32) i ∧ ∀ j, j < i → ¬ own_at (ds.map fun c => c.toInt8.toInt32) j) ∧ (CHv Z consts_1 vm h)
set_option maxRecDepth 65536 in
set_option maxHeartbeats 40000000 in
theorem rmipOf (l : Launch) (Z : State) (a0 : Array Value) (hw : ∀ d ∈ tables_1, d.before a0 Z = true) (ws : List Jvm.Cond) (a1 : Addr) (ds : List Int32) (cs : Int32) (sf : Value) (h0 : Heap) (n0 : Nat) (Z0 : n0 ≤ h0.size) (O0 : Old Z n0 h0) (Scs : Sta Z Z.heap "java/lang/String" "COMPACT_STRINGS" "Z" (.int cs)) (hcs : ¬ (cs = (0 : Int32))) (Ssf : Sta Z Z.heap "jdk/internal/util/Preconditions" "SIOOBE_FORMATTER" "Ljava/util/function/BiFunction;" sf) (hsf : sf.isRef = true) (S1 : own_Str Z h0 a1 ds) (hl : ds.length ≤ 6) :
    MetFree l (⟨"com/example/hollow_crown/hollowcrown/instance/InstanceId", "ipOf", "(Ljava/lang/String;)Ljava/lang/String;"⟩ : MethodName) (head1 (Jvm.Cond.code (⟨"com/example/hollow_crown/hollowcrown/instance/InstanceId", "ipOf", "(Ljava/lang/String;)Ljava/lang/String;"⟩ : MethodName) prog_5_method_4_code 2 (some (.object "java/lang/String")) :: ws) ({ frames := 5, cells := 6, slots := 30, locals := 112 } : Room)) (fun a U => a = #[(.ref a1)] ∧ Z.Warmed39 U.vm ∧ U.heap = h0 ∧ CHv Z consts_1 U.vm h0) (fun _ _ _ _ _ => True) (fun _ U o U' => ∃ v L, o = .returned v ∧ QipOf Z a1 ds cs sf h0 n0 v U'.heap L U'.vm ∧ ReturnedEndW U o U' L ({ frames := 5, cells := 6, slots := 30, locals := 112 } : Room).cells ({ frames := 5, cells := 6, slots := 30, locals := 112 } : Room).slots) := by
  refine MetFree.of_bodySF (plainFor_of_name pn_com_example_hollow_crown_hollowcrown_instance_InstanceId) hisR ?_
  intro p e s m args below meth c s₁ Bd hml0 hP hK
  obtain ⟨rfl, hZ, hH0, J0⟩ := hP
  have hx := Bd.exec
  have hby := Bd.bytes
  have hml : c.maxLocals = 2 := hml0
  have hown : s.vm.findClass "com/example/hollow_crown/hollowcrown/instance/InstanceId" = some m.cls := findClass_of_methodNamed Bd.named
  have hnm := (name_of_methodNamed Bd.named Bd.method).1
  have X0 : Stand p l e ({ frames := 5, cells := 6, slots := 30, locals := 112 } : Room) (s.setVm s.vm) m #[(.ref a1)] below meth c s₁ [] 0 0 := Stand.of_body Bd
  have hS0 : s.Since s.vm 0 := (State.WarmedH.refl s).since 0
  have e0 : s₁.heap = h0 := by rw [← hH0, Bd.state]; rfl
  have N0 := Fr.nil n0
  refine own_cast (ef_ipOf m a1) ?_
  show own_Go p e below (fun o U' => ∃ v L, o = .returned v ∧ QipOf Z a1 ds cs sf h0 n0 v U'.heap L U'.vm ∧ ReturnedEndW s o U' L ({ frames := 5, cells := 6, slots := 30, locals := 112 } : Room).cells ({ frames := 5, cells := 6, slots := 30, locals := 112 } : Room).slots) (s₁.setTop (mkF m 0 #[.val (.ref a1), .unset] []))
  have S1' := S1
  obtain ⟨E1, C1, ⟨t1, k1, V1, B1⟩, hd, -⟩ := S1'
  refine own_via (fun _ => XS.aloadN X0.here hx rfl (hb hby d10_0) rfl rfl) ?_
  show own_Go p e below _ (s₁.setTop (mkF m 1 #[.val (.ref a1), .unset] [(.ref a1)]))
  obtain ⟨a_1, T_1, h_1, k_1, b_1, kk_1, X_1, e_1, E_1, hS_1, hk_1, hZ_1, ho_1, LE_1, LC_1, LV_1, LA_1, la_1, lb_1, CH_1, L_1, sf_1, st_1⟩ := ldcCH X0 hx hZ hown (own_w hw 44 rfl) (own_wS hw) e0 hS0 (Nat.zero_le _) (own_EW hw) (by decide) J0 (vs := ((([64, 45, 64] : List Int32).map fun c => c.toInt8.toInt32).map Value.int)) (z := Int32.ofNat 3) ⟨by decide, by decide +kernel⟩ (by decide) rfl (g := (mkF m 1 #[.val (.ref a1), .unset] [(.ref a1)])) rfl (hb hby d10_1) (n := 12) (by decide) (by decide) (by decide) (by decide)
  have J_1 := CH_1.1
  have SL_1 : own_Str Z h_1 a_1 [64, 45, 64] := ⟨LE_1, LC_1, ⟨b_1, kk_1, LV_1, LA_1⟩, by decide, by decide⟩
  refine own_via st_1 ?_
  show own_Go p e below _ (T_1.setTop (mkF m 3 #[.val (.ref a1), .unset] [(.ref a_1), (.ref a1)]))
  have A2_1 : Arv Z h_1 b_1 kk_1 .byte (3 : Int32) [(.int (64 : Int32)), (.int (45 : Int32)), (.int (64 : Int32))] (.int (0 : Int32)) := LA_1
  have K_2 : Keep h0 h_1 [] := (Keep.refl h0 []).ext E_1
  obtain ⟨cq_3, kq_3, q_3a, q_3b, q_3c⟩ := isOf hZ_1 e_1 (E1.keep K_2)
  obtain ⟨_, _, ⟨T_3, L_3, k_3, n_3⟩, -, X_3, ⟨Lc_3, hQ_3, l_3, y_3, z_3⟩, st_3⟩ := X_1.virtualBack hx (y := (⟨"java/lang/String", "indexOf", "(Ljava/lang/String;)I"⟩ : MethodName)) (z := (⟨"java/lang/String", "indexOf", "(Ljava/lang/String;)I"⟩ : MethodName)) ho_1 (mvT hZ_1 (own_w hw 47 rfl)) (mvT hZ_1 (own_w hw 48 rfl)) (notFace_of_selects (args := #[]) (mvT hZ_1 (own_w hw 50 rfl))) (mvT hZ_1 (own_w hw 50 rfl)) (mvT hZ_1 (own_w hw 49 rfl)) (by decide) (backOf (W := 0) (rmindexOf l Z a0 hw [] a1 a_1 t1 b_1 k1 kk_1 (Int32.ofNat ds.length) (ds.map fun c => c.toInt8.toInt32) cs h_1 n0 (Nat.le_trans Z0 K_2.1) (O0.keep K_2 all0) Scs hcs (E1.keep K_2) (C1.keep K_2 nin0) (V1.keep K_2 nin0) LE_1 LC_1 LV_1 (B1.keep K_2 nin0) A2_1 (by simp) (by simpa using hl)) hZ_1 (own_w hw 51 rfl) (own_w hw 10 rfl) (by decide) (by decide)) q_3a q_3c (g := (mkF m 3 #[.val (.ref a1), .unset] [(.ref a_1), (.ref a1)])) rfl (by rw [hml]; rfl) (Steps.refl _) (argsL := [(.ref a_1)]) (rest := []) (lenOf pd_18 rfl) rfl (by show 2 * 0 + _ ≤ _; exact Nat.le_of_eq rfl) (hb hby d10_3) (fun _ _ => ⟨rfl, e_1, (by decide : 2 + 0 ≤ _), (by decide : 16 + 0 ≤ _)⟩)
  dsimp only [Pt.U, Pt.locs, Pt.cells, Pt.slots] at X_3 l_3 y_3 z_3 st_3 hQ_3
  subst l_3 y_3 z_3
  obtain ⟨i_4, rfl, Nq_3, e_3, q_3_0⟩ := hQ_3
  have N_3 := Fr.app N0 Nq_3
  refine own_via (fun _ k => st_3.trans k) ?_
  show own_Go p e below _ (T_3.setTop (mkF m 6 #[.val (.ref a1), .unset] [(.int i_4)]))
  refine own_via (fun _ => XS.istoreN X_3.here hx rfl (hb hby d10_6) rfl (l' := #[.val (.ref a1), .val (.int i_4)]) rfl) ?_
  show own_Go p e below _ (T_3.setTop (mkF m 7 #[.val (.ref a1), .val (.int i_4)] []))
  refine own_via (fun _ => XS.iloadN X_3.here hx rfl (hb hby d10_7) rfl) ?_
  show own_Go p e below _ (T_3.setTop (mkF m 8 #[.val (.ref a1), .val (.int i_4)] [(.int i_4)]))
  rcases q_3_0 with ⟨hm, hno⟩ | ⟨i, hi, hat, hno⟩
  · refine own_via (fun _ => XS.ifNo X_3.here hx rfl (hb hby d10_8) rfl ((if0 _ _).trans (tlt ((by rw [hm]; decide) : i_4 < (0 : Int32))).2.1)) ?_
    show own_Go p e below _ (T_3.setTop (mkF m 11 #[.val (.ref a1), .val (.int i_4)] []))
    refine own_via (fun _ => XS.aloadN X_3.here hx rfl (hb hby d10_11) rfl rfl) ?_
    show own_Go p e below _ (T_3.setTop (mkF m 12 #[.val (.ref a1), .val (.int i_4)] [(.ref a1)]))
    refine own_via (fun _ => XS.goto X_3.here hx rfl (pc0 := 12) (pc' := 21) rfl (hb hby d10_12) (by decide) (by decide)) ?_
    show own_Go p e below _ (T_3.setTop (mkF m 21 #[.val (.ref a1), .val (.int i_4)] [(.ref a1)]))
    exact own_retvW X_3 hS_1 (by rw [e_3]; exact hk_1) Bd.notSynchronized hx Bd.returns rfl (Or.inr (Or.inr (Or.inr (Or.inr ⟨rfl, rfl, rfl⟩)))) (hb hby d10_21) (by decide) (by decide) (by rw [e_3]; exact ⟨a1, ds, rfl, N_3, K_2, (E1.keep K_2), (S1.keep0 K_2), (Or.inl ⟨rfl, hno⟩), (own_CHstay J_1 hZ_1 (own_EW hw) X_3.warmed)⟩)
  · have hlt : i < ds.length := by have := hat.1; simp at this; omega
    subst hi
    refine own_via (fun _ => XS.ifYes X_3.here hx rfl (pc0 := 8) (pc' := 15) rfl (hb hby d10_8) rfl ((if0 _ _).trans (flt (own_nn (by omega) : ¬ ((Int32.ofNat i) < (0 : Int32)))).2.1) (by decide) (by decide)) ?_
    show own_Go p e below _ (T_3.setTop (mkF m 15 #[.val (.ref a1), .val (.int (Int32.ofNat i))] []))
    refine own_via (fun _ => XS.aloadN X_3.here hx rfl (hb hby d10_15) rfl rfl) ?_
    show own_Go p e below _ (T_3.setTop (mkF m 16 #[.val (.ref a1), .val (.int (Int32.ofNat i))] [(.ref a1)]))
    refine own_via (fun _ => XS.iconst X_3.here hx rfl (hb hby d10_16)) ?_
    show own_Go p e below _ (T_3.setTop (mkF m 17 #[.val (.ref a1), .val (.int (Int32.ofNat i))] [(.int (0 : Int32)), (.ref a1)]))
    refine own_via (fun _ => XS.iloadN X_3.here hx rfl (hb hby d10_17) rfl) ?_
    show own_Go p e below _ (T_3.setTop (mkF m 18 #[.val (.ref a1), .val (.int (Int32.ofNat i))] [(.int (Int32.ofNat i)), (.int (0 : Int32)), (.ref a1)]))
    obtain ⟨cq_5, kq_5, q_5a, q_5b, q_5c⟩ := isOf hZ_1 e_3 (E1.keep K_2)
    obtain ⟨_, _, ⟨T_5, L_5, k_5, n_5⟩, -, Xc_5, hSc_5, hgc_5, ⟨Lc_5, hQ_5, l_5, y_5, z_5⟩, st_5⟩ := X_3.virtualBackS hx (y := (⟨"java/lang/String", "substring", "(II)Ljava/lang/String;"⟩ : MethodName)) (z := (⟨"java/lang/String", "substring", "(II)Ljava/lang/String;"⟩ : MethodName)) ho_1 (mvT hZ_1 (own_w hw 79 rfl)) (mvT hZ_1 (own_w hw 80 rfl)) (notFace_of_selects (args := #[]) (mvT hZ_1 (own_w hw 82 rfl))) (mvT hZ_1 (own_w hw 82 rfl)) (mvT hZ_1 (own_w hw 81 rfl)) (by decide) (own_backS (J := fun vm_ => CHv Z consts_1 vm_ h_1) (W := 0) (rmsubstring l Z a0 hw [] a1 ds i cs sf h_1 n0 (Nat.le_trans Z0 K_2.1) (O0.keep K_2 all0) Scs hcs Ssf hsf (S1.keep0 K_2) hl hlt) hZ_1 (own_w hw 83 rfl) (own_w hw 10 rfl) (by decide) (by decide)) q_5a q_5c (g := (mkF m 18 #[.val (.ref a1), .val (.int (Int32.ofNat i))] [(.int (Int32.ofNat i)), (.int (0 : Int32)), (.ref a1)])) rfl (by rw [hml]; rfl) (Steps.refl _) (argsL := [(.int (0 : Int32)), (.int (Int32.ofNat i))]) (rest := []) (lenOf pd_19 rfl) rfl (by show 2 * 0 + _ ≤ _; exact Nat.le_of_eq rfl) (hb hby d10_18) (fun _ hW1 => ⟨rfl, e_3, (own_CHstay J_1 hZ_1 (own_EW hw) hW1), (by decide : 2 + 4 ≤ _), (by decide : 16 + 14 ≤ _)⟩)
    dsimp only [Pt.U, Pt.locs, Pt.cells, Pt.slots] at Xc_5 hSc_5 hgc_5 l_5 y_5 z_5 st_5 hQ_5
    subst l_5 y_5 z_5
    obtain ⟨X_5, hS_5, hZ_5, ho_5⟩ := rebS hS_1 (by rw [e_3]; exact hk_1) Xc_5 hSc_5 hgc_5 hZ_1 ho_1
    obtain ⟨r_6, rfl, Nq_5, K_5q, q_5_0, q_5_1, J_5⟩ := hQ_5
    have N_5 := Fr.app N_3 Nq_5
    refine own_via (fun _ k => st_5.trans k) ?_
    show own_Go p e below _ (T_5.setTop (mkF m 21 #[.val (.ref a1), .val (.int (Int32.ofNat i))] [(.ref r_6)]))
    have K_7 : Keep h0 T_5.heap [] := Keep.trans (ws := []) K_2 K_5q all0
    exact own_retvW X_5 hS_5 (Nat.le_refl _) Bd.notSynchronized hx Bd.returns rfl (Or.inr (Or.inr (Or.inr (Or.inr ⟨rfl, rfl, rfl⟩)))) (hb hby d10_21) (by decide) (by decide) ⟨r_6, (ds.take i), rfl, N_5, K_7, q_5_0, q_5_1, (Or.inr ⟨i, rfl, hat, hno⟩), (own_CHstay J_5 hZ_5 (own_EW hw) X_5.warmed)⟩
theorem own_f4 {x : Int32} (h : ((x.toUInt32 >>> ((3 : Int32) &&& 31).toUInt32).toInt32 &&& (7 : Int32)) < (4 : Int32)) : ((x.toUInt32 >>> ((3 : Int32) &&& 31).toUInt32).toInt32 &&& (7 : Int32)) = 0 ∨ ((x.toUInt32 >>> ((3 : Int32) &&& 31).toUInt32).toInt32 &&& (7 : Int32)) = 1 ∨ ((x.toUInt32 >>> ((3 : Int32) &&& 31).toUInt32).toInt32 &&& (7 : Int32)) = 2 ∨ ((x.toUInt32 >>> ((3 : Int32) &&& 31).toUInt32).toInt32 &&& (7 : Int32)) = 3 := by
  generalize (x.toUInt32 >>> ((3 : Int32) &&& 31).toUInt32).toInt32 = y at h ⊢
  rcases own_and7 y with e | e | e | e | e | e | e | e <;> rw [e] at h ⊢ <;> revert h <;> decide
theorem own_n7 {x z : Int32} (h : z = (x &&& (7 : Int32)) % (7 : Int32)) : z = 0 ∨ z = 1 ∨ z = 2 ∨ z = 3 ∨ z = 4 ∨ z = 5 ∨ z = 6 := by
  subst h
  rcases own_and7 x with e | e | e | e | e | e | e | e <;> rw [e] <;> decide
theorem own_lo8 {x : Int32} (h : ¬ x < 0 ∧ ¬ (255 : Int32) < x) : (x.toInt8.toInt32 = 64 ↔ x = 64) ∧ (x.toInt8.toInt32 = 45 ↔ x = 45) := by
  obtain ⟨k, rfl⟩ := own_255 h
  exact (by decide +kernel : ∀ k : Fin 256, ((Int32.ofNat k.val).toInt8.toInt32 = 64 ↔ Int32.ofNat k.val = 64) ∧ ((Int32.ofNat k.val).toInt8.toInt32 = 45 ↔ Int32.ofNat k.val = 45)) k
theorem own_mapD (ds : List Int32) (i : Nat) : (ds.map fun c => c.toInt8.toInt32).getD i 0 = (ds.getD i 0).toInt8.toInt32 := by
  simp only [List.getD_eq_getElem?_getD, List.getElem?_map]
  cases ds[i]? <;> rfl
theorem own_bdD {ds : List Int32} (h : ∀ c ∈ ds, ¬ c < 0 ∧ ¬ (255 : Int32) < c) (i : Nat) : ¬ ds.getD i 0 < 0 ∧ ¬ (255 : Int32) < ds.getD i 0 := by
  rw [List.getD_eq_getElem?_getD]
  cases e : ds[i]? with
  | none => decide
  | some x => exact h x (List.mem_of_getElem? e)
theorem own_at_iff {ds : List Int32} (h : ∀ c ∈ ds, ¬ c < 0 ∧ ¬ (255 : Int32) < c) (j : Nat) : own_at (ds.map fun c => c.toInt8.toInt32) j ↔ own_at ds j := by
  unfold own_at
  rw [own_mapD, own_mapD, own_mapD, List.length_map, (own_lo8 (own_bdD h j)).1, (own_lo8 (own_bdD h (j + 1))).2, (own_lo8 (own_bdD h (j + 2))).1]
theorem own_len6 (n : Nat) {c0 c1 c2 c3 c4 c5 : Int32} : (([c0, c1, c2, c3, c4, c5] : List Int32).take n).length ≤ 6 := by
  rw [List.length_take]; exact Nat.min_le_right _ _
theorem own_all6 {c0 c1 c2 c3 c4 c5 : Int32} (h0 : ¬ c0 < 0 ∧ ¬ (255 : Int32) < c0) (h1 : ¬ c1 < 0 ∧ ¬ (255 : Int32) < c1) (h2 : ¬ c2 < 0 ∧ ¬ (255 : Int32) < c2) (h3 : ¬ c3 < 0 ∧ ¬ (255 : Int32) < c3) (h4 : ¬ c4 < 0 ∧ ¬ (255 : Int32) < c4) (h5 : ¬ c5 < 0 ∧ ¬ (255 : Int32) < c5) : ∀ c ∈ ([c0, c1, c2, c3, c4, c5] : List Int32), ¬ c < 0 ∧ ¬ (255 : Int32) < c := by
  intro c hc
  simp only [List.mem_cons, List.not_mem_nil, or_false] at hc
  rcases hc with rfl | rfl | rfl | rfl | rfl | rfl <;> assumption
theorem own_k7 {k : Nat} (h : k ≤ 3) : Int32.ofNat k = 0 ∨ Int32.ofNat k = 1 ∨ Int32.ofNat k = 2 ∨ Int32.ofNat k = 3 ∨ Int32.ofNat k = 4 ∨ Int32.ofNat k = 5 ∨ Int32.ofNat k = 6 := by
  rcases (by omega : k = 0 ∨ k = 1 ∨ k = 2 ∨ k = 3) with rfl | rfl | rfl | rfl <;> decide
theorem own_none {ds es : List Int32} (h : (es = ds ∧ ∀ j, ¬ own_at (ds.map fun c => c.toInt8.toInt32) j) ∨ ∃ i, es = ds.take i ∧ own_at (ds.map fun c => c.toInt8.toInt32) i ∧ ∀ j, j < i → ¬ own_at (ds.map fun c => c.toInt8.toInt32) j) (hall : ∀ j, ¬ own_at ds j) (hb : ∀ c ∈ ds, ¬ c < 0 ∧ ¬ (255 : Int32) < c) : es = ds := by
  rcases h with ⟨e, -⟩ | ⟨i, -, q, -⟩
  · exact e
  · exact absurd ((own_at_iff hb i).mp q) (hall i)
theorem own_some {C es : List Int32} {nn : Int32} {k : Nat} (h : (es = C.take nn.toNatClampNeg ∧ ∀ j, ¬ own_at ((C.take nn.toNatClampNeg).map fun c => c.toInt8.toInt32) j) ∨ ∃ i, es = (C.take nn.toNatClampNeg).take i ∧ own_at ((C.take nn.toNatClampNeg).map fun c => c.toInt8.toInt32) i ∧ ∀ j, j < i → ¬ own_at ((C.take nn.toNatClampNeg).map fun c => c.toInt8.toInt32) j) (hk3 : k ≤ 3) (hat : own_at (C.take nn.toNatClampNeg) k) (hlo : ∀ j, j < k → ¬ own_at (C.take nn.toNatClampNeg) j) (hb : ∀ c ∈ C.take nn.toNatClampNeg, ¬ c < 0 ∧ ¬ (255 : Int32) < c) : es = C.take (Int32.ofNat k).toNatClampNeg := by
  rw [own_clamp (by omega)]
  rcases h with ⟨-, q⟩ | ⟨i, e, q, r⟩
  · exact absurd ((own_at_iff hb k).mpr hat) (q k)
  · have hik : i = k := by
      rcases Nat.lt_trichotomy i k with g | g | g
      · exact absurd ((own_at_iff hb i).mp q) (hlo i g)
      · exact g
      · exact absurd ((own_at_iff hb k).mpr hat) (r k g)
    subst hik
    have h3 := hat.1
    rw [List.length_take] at h3
    rw [e, List.take_take, Nat.min_eq_left (by omega)]
theorem own_sepAt {c0 c1 c2 c3 c4 c5 nn z : Int32} (hn : nn = 0 ∨ nn = 1 ∨ nn = 2 ∨ nn = 3 ∨ nn = 4 ∨ nn = 5 ∨ nn = 6) {i : Nat} (hi : i ≤ 3) (hz : z = if nn < Int32.ofNat (i + 3) then 0 else if ([c0, c1, c2, c3, c4, c5] : List Int32).getD i 0 = 64 then (if ([c0, c1, c2, c3, c4, c5] : List Int32).getD (i + 1) 0 = 45 then (if ([c0, c1, c2, c3, c4, c5] : List Int32).getD (i + 2) 0 = 64 then 1 else 0) else 0) else 0) : z = 0 ↔ ¬ own_at (([c0, c1, c2, c3, c4, c5] : List Int32).take nn.toNatClampNeg) i := by
  have key : ∀ (P : Prop) (a b d : Int32) (A : Prop) [Decidable P], (A ↔ ¬ P ∧ a = 64 ∧ b = 45 ∧ d = 64) → ((if P then (0 : Int32) else if a = 64 then (if b = 45 then (if d = 64 then 1 else 0) else 0) else 0) = 0 ↔ ¬ A) := by
    intro P a b d A _ hA
    rw [hA]
    by_cases h0 : P <;> by_cases h1 : a = 64 <;> by_cases h2 : b = 45 <;> by_cases h3 : d = 64 <;> simp [h0, h1, h2, h3]
  subst hz
  refine key _ _ _ _ _ ?_
  unfold own_at
  rcases (by omega : i = 0 ∨ i = 1 ∨ i = 2 ∨ i = 3) with rfl | rfl | rfl | rfl <;> rcases hn with rfl | rfl | rfl | rfl | rfl | rfl | rfl <;> simp +decide [own_clamp']
theorem own_cases {c0 c1 c2 c3 c4 c5 nn z0 z1 z2 z3 e0 e1 e2 e3 : Int32} (he3 : e3 = if z3 = (0 : Int32) then (-1 : Int32) else 3) (he2 : e2 = if z2 = (0 : Int32) then e3 else 2) (he1 : e1 = if z1 = (0 : Int32) then e2 else 1) (he0 : e0 = if z0 = (0 : Int32) then e1 else 0)
    (hz3 : z3 = if nn < 6 then 0 else if c3 = 64 then (if c4 = 45 then (if c5 = 64 then 1 else 0) else 0) else 0) (hz2 : z2 = if nn < 5 then 0 else if c2 = 64 then (if c3 = 45 then (if c4 = 64 then 1 else 0) else 0) else 0) (hz1 : z1 = if nn < 4 then 0 else if c1 = 64 then (if c2 = 45 then (if c3 = 64 then 1 else 0) else 0) else 0) (hz0 : z0 = if nn < 3 then 0 else if c0 = 64 then (if c1 = 45 then (if c2 = 64 then 1 else 0) else 0) else 0)
    (hn : nn = 0 ∨ nn = 1 ∨ nn = 2 ∨ nn = 3 ∨ nn = 4 ∨ nn = 5 ∨ nn = 6) :
    (e0 = -1 ∧ ∀ j, ¬ own_at (([c0, c1, c2, c3, c4, c5] : List Int32).take nn.toNatClampNeg) j) ∨ ∃ k, e0 = Int32.ofNat k ∧ k ≤ 3 ∧ own_at (([c0, c1, c2, c3, c4, c5] : List Int32).take nn.toNatClampNeg) k ∧ ∀ j, j < k → ¬ own_at (([c0, c1, c2, c3, c4, c5] : List Int32).take nn.toNatClampNeg) j := by
  have g0 := own_sepAt (c0 := c0) (c1 := c1) (c2 := c2) (c3 := c3) (c4 := c4) (c5 := c5) hn (i := 0) (by decide) hz0
  have g1 := own_sepAt (c0 := c0) (c1 := c1) (c2 := c2) (c3 := c3) (c4 := c4) (c5 := c5) hn (i := 1) (by decide) hz1
  have g2 := own_sepAt (c0 := c0) (c1 := c1) (c2 := c2) (c3 := c3) (c4 := c4) (c5 := c5) hn (i := 2) (by decide) hz2
  have g3 := own_sepAt (c0 := c0) (c1 := c1) (c2 := c2) (c3 := c3) (c4 := c4) (c5 := c5) hn (i := 3) (by decide) hz3
  generalize hL : (([c0, c1, c2, c3, c4, c5] : List Int32).take nn.toNatClampNeg) = ds at g0 g1 g2 g3 ⊢
  have hlen : ds.length ≤ 6 := by rw [← hL]; exact own_len6 _
  have h4 : ∀ j, 4 ≤ j → ¬ own_at ds j := fun j hj q => by have := q.1; omega
  clear hz0 hz1 hz2 hz3
  by_cases h0 : z0 = 0
  · by_cases h1 : z1 = 0
    · by_cases h2 : z2 = 0
      · by_cases h3 : z3 = 0
        · refine Or.inl ⟨by rw [he0, if_pos h0, he1, if_pos h1, he2, if_pos h2, he3, if_pos h3], fun j => ?_⟩
          rcases (by omega : j = 0 ∨ j = 1 ∨ j = 2 ∨ j = 3 ∨ 4 ≤ j) with rfl | rfl | rfl | rfl | hj
          · exact g0.mp h0
          · exact g1.mp h1
          · exact g2.mp h2
          · exact g3.mp h3
          · exact h4 j hj
        · refine Or.inr ⟨3, by rw [he0, if_pos h0, he1, if_pos h1, he2, if_pos h2, he3, if_neg h3]; rfl, by decide, Classical.not_not.mp fun q => h3 (g3.mpr q), fun j hj => ?_⟩
          rcases (by omega : j = 0 ∨ j = 1 ∨ j = 2) with rfl | rfl | rfl
          · exact g0.mp h0
          · exact g1.mp h1
          · exact g2.mp h2
      · refine Or.inr ⟨2, by rw [he0, if_pos h0, he1, if_pos h1, he2, if_neg h2]; rfl, by decide, Classical.not_not.mp fun q => h2 (g2.mpr q), fun j hj => ?_⟩
        rcases (by omega : j = 0 ∨ j = 1) with rfl | rfl
        · exact g0.mp h0
        · exact g1.mp h1
    · refine Or.inr ⟨1, by rw [he0, if_pos h0, he1, if_neg h1]; rfl, by decide, Classical.not_not.mp fun q => h1 (g1.mpr q), fun j hj => ?_⟩
      obtain rfl : j = 0 := by omega
      exact g0.mp h0
  · exact Or.inr ⟨0, by rw [he0, if_neg h0]; rfl, by decide, Classical.not_not.mp fun q => h0 (g0.mpr q), fun j hj => absurd hj (Nat.not_lt_zero j)⟩

theorem pd_20 : parseMethodDescriptor "(I)C" = some ⟨[.int], some .char⟩ := by decide +kernel
theorem pd_21 : parseMethodDescriptor "(I[C)Ljava/lang/String;" = some ⟨[.int, (.array .char)], some (.object "java/lang/String")⟩ := by decide +kernel
theorem pd_22 : parseMethodDescriptor "([CII)Z" = some ⟨[(.array .char), .int, .int], some .boolean⟩ := by decide +kernel
theorem pd_23 : parseMethodDescriptor "(Ljava/lang/String;)Ljava/lang/String;" = some ⟨[(.object "java/lang/String")], some (.object "java/lang/String")⟩ := by decide +kernel
theorem pd_24 : parseMethodDescriptor "(Ljava/lang/Object;)Z" = some ⟨[(.object "java/lang/Object")], some .boolean⟩ := by decide +kernel
theorem ef_0 (m : MethodId) (p1 : Int32) (p2 : Int32) (p3 : Int32) : entryFrame m #[(.int p1), (.int p2), (.int p3)] maxLocals = mkF m 0 #[.val (.int p1), .val (.int p2), .val (.int p3), .unset, .unset, .unset, .unset, .unset, .unset, .unset] [] := by first | (simp [entryFrame, mkF, argsToLocals, Value.category, maxLocals]; done) | rfl
def Q0 (Z : State) (p1 : Int32) (p2 : Int32) (p3 : Int32) (cs : Int32) (sf : Value) (h0 : Heap) (n0 : Nat) (v : Option Value) (h : Heap) (L : List Loc) (vm : Vm) : Prop := v = some (.int (1 : Int32)) ∧ Fr n0 L ∧ Keep h0 h []
set_option maxRecDepth 65536 in
set_option maxHeartbeats 40000000 in
theorem rm0 (l : Launch) (Z : State) (a0 : Array Value) (hw : ∀ d ∈ tables_1, d.before a0 Z = true) (ws : List Jvm.Cond) (p1 : Int32) (p2 : Int32) (p3 : Int32) (cs : Int32) (sf : Value) (h0 : Heap) (n0 : Nat) (Z0 : n0 ≤ h0.size) (O0 : Old Z n0 h0) (Scs : Sta Z Z.heap "java/lang/String" "COMPACT_STRINGS" "Z" (.int cs)) (hcs : ¬ (cs = (0 : Int32))) (Ssf : Sta Z Z.heap "jdk/internal/util/Preconditions" "SIOOBE_FORMATTER" "Ljava/util/function/BiFunction;" sf) (hsf : sf.isRef = true) :
    MetFree l x (head1 (Jvm.Cond.code x code maxLocals ret :: ws) room_1) (fun a U => a = #[(.int p1), (.int p2), (.int p3)] ∧ Z.Warmed39 U.vm ∧ U.heap = h0 ∧ CHv Z consts_1 U.vm h0) (fun _ _ _ _ _ => True) (fun _ U o U' => ∃ v L, o = .returned v ∧ Q0 Z p1 p2 p3 cs sf h0 n0 v U'.heap L U'.vm ∧ ReturnedEndW U o U' L room_1.cells room_1.slots) := by
  refine MetFree.of_bodySF (plainFor_of_name pn_com_example_hollow_crown_hollowcrown_instance_InstanceIdIpOfPinLaw) hisR ?_
  intro p e s m args below meth c s₁ Bd hml0 hP hK
  obtain ⟨rfl, hZ, hH0, J0⟩ := hP
  have hx := Bd.exec
  have hby := Bd.bytes
  have hml : c.maxLocals = 10 := hml0
  have hown : s.vm.findClass "com/example/hollow_crown/hollowcrown/instance/InstanceIdIpOfPinLaw" = some m.cls := findClass_of_methodNamed Bd.named
  have hnm := (name_of_methodNamed Bd.named Bd.method).1
  have X0 : Stand p l e room_1 (s.setVm s.vm) m #[(.int p1), (.int p2), (.int p3)] below meth c s₁ [] 0 0 := Stand.of_body Bd
  have hS0 : s.Since s.vm 0 := (State.WarmedH.refl s).since 0
  have e0 : s₁.heap = h0 := by rw [← hH0, Bd.state]; rfl
  have N0 := Fr.nil n0
  refine own_cast (ef_0 m p1 p2 p3) ?_
  show own_Go p e below (fun o U' => ∃ v L, o = .returned v ∧ Q0 Z p1 p2 p3 cs sf h0 n0 v U'.heap L U'.vm ∧ ReturnedEndW s o U' L room_1.cells room_1.slots) (s₁.setTop (mkF m 0 #[.val (.int p1), .val (.int p2), .val (.int p3), .unset, .unset, .unset, .unset, .unset, .unset, .unset] []))
  refine own_via (fun _ => XS.bipush X0.here hx rfl (hb hby at_0)) ?_
  show own_Go p e below _ (s₁.setTop (mkF m 2 #[.val (.int p1), .val (.int p2), .val (.int p3), .unset, .unset, .unset, .unset, .unset, .unset, .unset] [(.int (6 : Int32))]))
  obtain ⟨T_1, h_1, k_1, X_1, e_1, E_1, A_1, st_1⟩ := newP X0 hx hZ (own_w hw 0 rfl) e0 (g := (mkF m 2 #[.val (.int p1), .val (.int p2), .val (.int p3), .unset, .unset, .unset, .unset, .unset, .unset, .unset] [(.int (6 : Int32))])) rfl (hb hby at_2) rfl (by decide) (cap := 6) (by decide) (by decide) (by decide) (by decide)
  obtain ⟨b_1, g_1⟩ : ∃ z, z = h0.size := ⟨_, rfl⟩
  rw [← g_1] at A_1 st_1
  have V_1 : Arv Z h_1 b_1 k_1 .char (6 : Int32) [(.int (0 : Int32)), (.int (0 : Int32)), (.int (0 : Int32)), (.int (0 : Int32)), (.int (0 : Int32)), (.int (0 : Int32))] (.int (0 : Int32)) := (Arv.new A_1 (by decide)).pad (pad_rep [] (.int (0 : Int32)) 6)
  refine own_via st_1 ?_
  show own_Go p e below _ (T_1.setTop (mkF m 4 #[.val (.int p1), .val (.int p2), .val (.int p3), .unset, .unset, .unset, .unset, .unset, .unset, .unset] [(.ref b_1)]))
  refine own_via (fun _ => XS.astoreN X_1.here hx rfl (hb hby at_4) rfl rfl (l' := #[.val (.int p1), .val (.int p2), .val (.int p3), .val (.ref b_1), .unset, .unset, .unset, .unset, .unset, .unset]) rfl) ?_
  show own_Go p e below _ (T_1.setTop (mkF m 5 #[.val (.int p1), .val (.int p2), .val (.int p3), .val (.ref b_1), .unset, .unset, .unset, .unset, .unset, .unset] []))
  refine own_via (fun _ => XS.aloadN X_1.here hx rfl (hb hby at_5) rfl rfl) ?_
  show own_Go p e below _ (T_1.setTop (mkF m 6 #[.val (.int p1), .val (.int p2), .val (.int p3), .val (.ref b_1), .unset, .unset, .unset, .unset, .unset, .unset] [(.ref b_1)]))
  refine own_via (fun _ => XS.iconst X_1.here hx rfl (hb hby at_6)) ?_
  show own_Go p e below _ (T_1.setTop (mkF m 7 #[.val (.int p1), .val (.int p2), .val (.int p3), .val (.ref b_1), .unset, .unset, .unset, .unset, .unset, .unset] [(.int (0 : Int32)), (.ref b_1)]))
  refine own_via (fun _ => XS.iloadN X_1.here hx rfl (hb hby at_7) rfl) ?_
  show own_Go p e below _ (T_1.setTop (mkF m 8 #[.val (.int p1), .val (.int p2), .val (.int p3), .val (.ref b_1), .unset, .unset, .unset, .unset, .unset, .unset] [(.int p1), (.int (0 : Int32)), (.ref b_1)]))
  have K_2 : Keep h0 h_1 [] := (Keep.refl h0 []).ext E_1
  obtain ⟨_, _, ⟨T_3, L_3, k_3, n_3⟩, -, X_3, ⟨Lc_3, hQ_3, l_3, y_3, z_3⟩, st_3⟩ := Jvm.LawKit.callS X_1 hx (y := (⟨"com/example/hollow_crown/hollowcrown/instance/InstanceIdIpOfPinLaw", "draw", "(I)C"⟩ : MethodName)) hown (mvT hZ (own_w hw 1 rfl)) (mvT hZ (own_w hw 2 rfl)) (mvT hZ (own_w hw 3 rfl)) (mvT hZ (own_w hw 4 rfl)) (by decide) (backOf (W := 2) (rmdraw l Z a0 hw [] p1 h_1 n0 (Nat.le_trans Z0 K_2.1) ) hZ (own_w hw 4 rfl) (own_w hw 3 rfl) (by decide) (by decide)) (g := (mkF m 8 #[.val (.int p1), .val (.int p2), .val (.int p3), .val (.ref b_1), .unset, .unset, .unset, .unset, .unset, .unset] [(.int p1), (.int (0 : Int32)), (.ref b_1)])) rfl (by rw [hml]; rfl) (argsL := [(.int p1)]) (rest := [(.int (0 : Int32)), (.ref b_1)]) (lenOf pd_20 rfl) rfl (by show 2 * 0 + _ ≤ _; exact Nat.le_of_eq rfl) (hb hby at_8) (fun _ _ => ⟨rfl, e_1, (by decide : 1 + 0 ≤ _), (by decide : 6 + 0 ≤ _)⟩)
  dsimp only [Pt.U, Pt.locs, Pt.cells, Pt.slots] at X_3 l_3 y_3 z_3 st_3 hQ_3
  subst l_3 y_3 z_3
  obtain ⟨d0, rfl, Nq_3, e_3, q_3_0⟩ := hQ_3
  have N_3 := Fr.app N0 Nq_3
  refine own_via st_3 ?_
  show own_Go p e below _ (T_3.setTop (mkF m 11 #[.val (.int p1), .val (.int p2), .val (.int p3), .val (.ref b_1), .unset, .unset, .unset, .unset, .unset, .unset] [(.int d0), (.int (0 : Int32)), (.ref b_1)]))
  obtain ⟨cl_4, Ar_4, q_4, S_4, M_4, H_4, G_4⟩ := (id V_1)
  obtain ⟨T_4, h_4, X_4, e_4, W_4, st_4⟩ := stC X_3 hx hZ e_3 Ar_4 (j := (0 : Int32)) (inb_of S_4 ⟨by decide, by decide⟩) (g := (mkF m 11 #[.val (.int p1), .val (.int p2), .val (.int p3), .val (.ref b_1), .unset, .unset, .unset, .unset, .unset, .unset] [(.int d0), (.int (0 : Int32)), (.ref b_1)])) rfl rfl (hb hby at_11)
  have V_4 : Arv Z h_4 b_1 k_1 .char (6 : Int32) [(.int (nar .char d0)), (.int (0 : Int32)), (.int (0 : Int32)), (.int (0 : Int32)), (.int (0 : Int32)), (.int (0 : Int32))] (.int (0 : Int32)) := Arv.set Ar_4 q_4 S_4 M_4 H_4 G_4 (fits_nar_char _) W_4 0 rfl (Nat.le_of_ble_eq_true rfl)
  have N_4 := Fr.snoc X_4 N_3 (Nat.le_trans Z0 (Nat.le_of_eq g_1.symm))
  refine own_via st_4 ?_
  show own_Go p e below _ (T_4.setTop (mkF m 12 #[.val (.int p1), .val (.int p2), .val (.int p3), .val (.ref b_1), .unset, .unset, .unset, .unset, .unset, .unset] []))
  have V_5 : Arv Z h_4 b_1 k_1 .char (6 : Int32) [(.int d0), (.int (0 : Int32)), (.int (0 : Int32)), (.int (0 : Int32)), (.int (0 : Int32)), (.int (0 : Int32))] (.int (0 : Int32)) := by have q := V_4; rwa [own_nar q_3_0] at q
  refine own_via (fun _ => XS.aloadN X_4.here hx rfl (hb hby at_12) rfl rfl) ?_
  show own_Go p e below _ (T_4.setTop (mkF m 13 #[.val (.int p1), .val (.int p2), .val (.int p3), .val (.ref b_1), .unset, .unset, .unset, .unset, .unset, .unset] [(.ref b_1)]))
  refine own_via (fun _ => XS.iconst X_4.here hx rfl (hb hby at_13)) ?_
  show own_Go p e below _ (T_4.setTop (mkF m 14 #[.val (.int p1), .val (.int p2), .val (.int p3), .val (.ref b_1), .unset, .unset, .unset, .unset, .unset, .unset] [(.int (1 : Int32)), (.ref b_1)]))
  refine own_via (fun _ => XS.iloadN X_4.here hx rfl (hb hby at_14) rfl) ?_
  show own_Go p e below _ (T_4.setTop (mkF m 15 #[.val (.int p1), .val (.int p2), .val (.int p3), .val (.ref b_1), .unset, .unset, .unset, .unset, .unset, .unset] [(.int p1), (.int (1 : Int32)), (.ref b_1)]))
  refine own_via (fun _ => XS.bipush X_4.here hx rfl (hb hby at_15)) ?_
  show own_Go p e below _ (T_4.setTop (mkF m 17 #[.val (.int p1), .val (.int p2), .val (.int p3), .val (.ref b_1), .unset, .unset, .unset, .unset, .unset, .unset] [(.int (10 : Int32)), (.int p1), (.int (1 : Int32)), (.ref b_1)]))
  refine own_via (fun _ => XS.iushr X_4.here hx rfl (hb hby at_17) rfl) ?_
  show own_Go p e below _ (T_4.setTop (mkF m 18 #[.val (.int p1), .val (.int p2), .val (.int p3), .val (.ref b_1), .unset, .unset, .unset, .unset, .unset, .unset] [(.int ((p1.toUInt32 >>> ((10 : Int32) &&& 31).toUInt32).toInt32)), (.int (1 : Int32)), (.ref b_1)]))
  have K_6 : Keep h0 h_4 [] := Keep.wr (ws := []) K_2 W_4 (Or.inr (Nat.le_of_eq g_1.symm))
  obtain ⟨_, _, ⟨T_7, L_7, k_7, n_7⟩, -, X_7, ⟨Lc_7, hQ_7, l_7, y_7, z_7⟩, st_7⟩ := Jvm.LawKit.callS X_4 hx (y := (⟨"com/example/hollow_crown/hollowcrown/instance/InstanceIdIpOfPinLaw", "draw", "(I)C"⟩ : MethodName)) hown (mvT hZ (own_w hw 1 rfl)) (mvT hZ (own_w hw 2 rfl)) (mvT hZ (own_w hw 3 rfl)) (mvT hZ (own_w hw 4 rfl)) (by decide) (backOf (W := 2) (rmdraw l Z a0 hw [] ((p1.toUInt32 >>> ((10 : Int32) &&& 31).toUInt32).toInt32) h_4 n0 (Nat.le_trans Z0 K_6.1) ) hZ (own_w hw 4 rfl) (own_w hw 3 rfl) (by decide) (by decide)) (g := (mkF m 18 #[.val (.int p1), .val (.int p2), .val (.int p3), .val (.ref b_1), .unset, .unset, .unset, .unset, .unset, .unset] [(.int ((p1.toUInt32 >>> ((10 : Int32) &&& 31).toUInt32).toInt32)), (.int (1 : Int32)), (.ref b_1)])) rfl (by rw [hml]; rfl) (argsL := [(.int ((p1.toUInt32 >>> ((10 : Int32) &&& 31).toUInt32).toInt32))]) (rest := [(.int (1 : Int32)), (.ref b_1)]) (lenOf pd_20 rfl) rfl (by show 2 * 0 + _ ≤ _; exact Nat.le_of_eq rfl) (hb hby at_18) (fun _ _ => ⟨rfl, e_4, (by decide : 1 + 0 ≤ _), (by decide : 6 + 0 ≤ _)⟩)
  dsimp only [Pt.U, Pt.locs, Pt.cells, Pt.slots] at X_7 l_7 y_7 z_7 st_7 hQ_7
  subst l_7 y_7 z_7
  obtain ⟨d1, rfl, Nq_7, e_7, q_7_0⟩ := hQ_7
  have N_7 := Fr.app N_4 Nq_7
  refine own_via st_7 ?_
  show own_Go p e below _ (T_7.setTop (mkF m 21 #[.val (.int p1), .val (.int p2), .val (.int p3), .val (.ref b_1), .unset, .unset, .unset, .unset, .unset, .unset] [(.int d1), (.int (1 : Int32)), (.ref b_1)]))
  obtain ⟨cl_8, Ar_8, q_8, S_8, M_8, H_8, G_8⟩ := (id V_5)
  obtain ⟨T_8, h_8, X_8, e_8, W_8, st_8⟩ := stC X_7 hx hZ e_7 Ar_8 (j := (1 : Int32)) (inb_of S_8 ⟨by decide, by decide⟩) (g := (mkF m 21 #[.val (.int p1), .val (.int p2), .val (.int p3), .val (.ref b_1), .unset, .unset, .unset, .unset, .unset, .unset] [(.int d1), (.int (1 : Int32)), (.ref b_1)])) rfl rfl (hb hby at_21)
  have V_8 : Arv Z h_8 b_1 k_1 .char (6 : Int32) [(.int d0), (.int (nar .char d1)), (.int (0 : Int32)), (.int (0 : Int32)), (.int (0 : Int32)), (.int (0 : Int32))] (.int (0 : Int32)) := Arv.set Ar_8 q_8 S_8 M_8 H_8 G_8 (fits_nar_char _) W_8 1 rfl (Nat.le_of_ble_eq_true rfl)
  have N_8 := Fr.snoc X_8 N_7 (Nat.le_trans Z0 (Nat.le_of_eq g_1.symm))
  refine own_via st_8 ?_
  show own_Go p e below _ (T_8.setTop (mkF m 22 #[.val (.int p1), .val (.int p2), .val (.int p3), .val (.ref b_1), .unset, .unset, .unset, .unset, .unset, .unset] []))
  have V_9 : Arv Z h_8 b_1 k_1 .char (6 : Int32) [(.int d0), (.int d1), (.int (0 : Int32)), (.int (0 : Int32)), (.int (0 : Int32)), (.int (0 : Int32))] (.int (0 : Int32)) := by have q := V_8; rwa [own_nar q_7_0] at q
  refine own_via (fun _ => XS.aloadN X_8.here hx rfl (hb hby at_22) rfl rfl) ?_
  show own_Go p e below _ (T_8.setTop (mkF m 23 #[.val (.int p1), .val (.int p2), .val (.int p3), .val (.ref b_1), .unset, .unset, .unset, .unset, .unset, .unset] [(.ref b_1)]))
  refine own_via (fun _ => XS.iconst X_8.here hx rfl (hb hby at_23)) ?_
  show own_Go p e below _ (T_8.setTop (mkF m 24 #[.val (.int p1), .val (.int p2), .val (.int p3), .val (.ref b_1), .unset, .unset, .unset, .unset, .unset, .unset] [(.int (2 : Int32)), (.ref b_1)]))
  refine own_via (fun _ => XS.iloadN X_8.here hx rfl (hb hby at_24) rfl) ?_
  show own_Go p e below _ (T_8.setTop (mkF m 25 #[.val (.int p1), .val (.int p2), .val (.int p3), .val (.ref b_1), .unset, .unset, .unset, .unset, .unset, .unset] [(.int p1), (.int (2 : Int32)), (.ref b_1)]))
  refine own_via (fun _ => XS.bipush X_8.here hx rfl (hb hby at_25)) ?_
  show own_Go p e below _ (T_8.setTop (mkF m 27 #[.val (.int p1), .val (.int p2), .val (.int p3), .val (.ref b_1), .unset, .unset, .unset, .unset, .unset, .unset] [(.int (20 : Int32)), (.int p1), (.int (2 : Int32)), (.ref b_1)]))
  refine own_via (fun _ => XS.iushr X_8.here hx rfl (hb hby at_27) rfl) ?_
  show own_Go p e below _ (T_8.setTop (mkF m 28 #[.val (.int p1), .val (.int p2), .val (.int p3), .val (.ref b_1), .unset, .unset, .unset, .unset, .unset, .unset] [(.int ((p1.toUInt32 >>> ((20 : Int32) &&& 31).toUInt32).toInt32)), (.int (2 : Int32)), (.ref b_1)]))
  have K_10 : Keep h0 h_8 [] := Keep.wr (ws := []) K_6 W_8 (Or.inr (Nat.le_of_eq g_1.symm))
  obtain ⟨_, _, ⟨T_11, L_11, k_11, n_11⟩, -, X_11, ⟨Lc_11, hQ_11, l_11, y_11, z_11⟩, st_11⟩ := Jvm.LawKit.callS X_8 hx (y := (⟨"com/example/hollow_crown/hollowcrown/instance/InstanceIdIpOfPinLaw", "draw", "(I)C"⟩ : MethodName)) hown (mvT hZ (own_w hw 1 rfl)) (mvT hZ (own_w hw 2 rfl)) (mvT hZ (own_w hw 3 rfl)) (mvT hZ (own_w hw 4 rfl)) (by decide) (backOf (W := 2) (rmdraw l Z a0 hw [] ((p1.toUInt32 >>> ((20 : Int32) &&& 31).toUInt32).toInt32) h_8 n0 (Nat.le_trans Z0 K_10.1) ) hZ (own_w hw 4 rfl) (own_w hw 3 rfl) (by decide) (by decide)) (g := (mkF m 28 #[.val (.int p1), .val (.int p2), .val (.int p3), .val (.ref b_1), .unset, .unset, .unset, .unset, .unset, .unset] [(.int ((p1.toUInt32 >>> ((20 : Int32) &&& 31).toUInt32).toInt32)), (.int (2 : Int32)), (.ref b_1)])) rfl (by rw [hml]; rfl) (argsL := [(.int ((p1.toUInt32 >>> ((20 : Int32) &&& 31).toUInt32).toInt32))]) (rest := [(.int (2 : Int32)), (.ref b_1)]) (lenOf pd_20 rfl) rfl (by show 2 * 0 + _ ≤ _; exact Nat.le_of_eq rfl) (hb hby at_28) (fun _ _ => ⟨rfl, e_8, (by decide : 1 + 0 ≤ _), (by decide : 6 + 0 ≤ _)⟩)
  dsimp only [Pt.U, Pt.locs, Pt.cells, Pt.slots] at X_11 l_11 y_11 z_11 st_11 hQ_11
  subst l_11 y_11 z_11
  obtain ⟨d2, rfl, Nq_11, e_11, q_11_0⟩ := hQ_11
  have N_11 := Fr.app N_8 Nq_11
  refine own_via st_11 ?_
  show own_Go p e below _ (T_11.setTop (mkF m 31 #[.val (.int p1), .val (.int p2), .val (.int p3), .val (.ref b_1), .unset, .unset, .unset, .unset, .unset, .unset] [(.int d2), (.int (2 : Int32)), (.ref b_1)]))
  obtain ⟨cl_12, Ar_12, q_12, S_12, M_12, H_12, G_12⟩ := (id V_9)
  obtain ⟨T_12, h_12, X_12, e_12, W_12, st_12⟩ := stC X_11 hx hZ e_11 Ar_12 (j := (2 : Int32)) (inb_of S_12 ⟨by decide, by decide⟩) (g := (mkF m 31 #[.val (.int p1), .val (.int p2), .val (.int p3), .val (.ref b_1), .unset, .unset, .unset, .unset, .unset, .unset] [(.int d2), (.int (2 : Int32)), (.ref b_1)])) rfl rfl (hb hby at_31)
  have V_12 : Arv Z h_12 b_1 k_1 .char (6 : Int32) [(.int d0), (.int d1), (.int (nar .char d2)), (.int (0 : Int32)), (.int (0 : Int32)), (.int (0 : Int32))] (.int (0 : Int32)) := Arv.set Ar_12 q_12 S_12 M_12 H_12 G_12 (fits_nar_char _) W_12 2 rfl (Nat.le_of_ble_eq_true rfl)
  have N_12 := Fr.snoc X_12 N_11 (Nat.le_trans Z0 (Nat.le_of_eq g_1.symm))
  refine own_via st_12 ?_
  show own_Go p e below _ (T_12.setTop (mkF m 32 #[.val (.int p1), .val (.int p2), .val (.int p3), .val (.ref b_1), .unset, .unset, .unset, .unset, .unset, .unset] []))
  have V_13 : Arv Z h_12 b_1 k_1 .char (6 : Int32) [(.int d0), (.int d1), (.int d2), (.int (0 : Int32)), (.int (0 : Int32)), (.int (0 : Int32))] (.int (0 : Int32)) := by have q := V_12; rwa [own_nar q_11_0] at q
  refine own_via (fun _ => XS.aloadN X_12.here hx rfl (hb hby at_32) rfl rfl) ?_
  show own_Go p e below _ (T_12.setTop (mkF m 33 #[.val (.int p1), .val (.int p2), .val (.int p3), .val (.ref b_1), .unset, .unset, .unset, .unset, .unset, .unset] [(.ref b_1)]))
  refine own_via (fun _ => XS.iconst X_12.here hx rfl (hb hby at_33)) ?_
  show own_Go p e below _ (T_12.setTop (mkF m 34 #[.val (.int p1), .val (.int p2), .val (.int p3), .val (.ref b_1), .unset, .unset, .unset, .unset, .unset, .unset] [(.int (3 : Int32)), (.ref b_1)]))
  refine own_via (fun _ => XS.iloadN X_12.here hx rfl (hb hby at_34) rfl) ?_
  show own_Go p e below _ (T_12.setTop (mkF m 35 #[.val (.int p1), .val (.int p2), .val (.int p3), .val (.ref b_1), .unset, .unset, .unset, .unset, .unset, .unset] [(.int p2), (.int (3 : Int32)), (.ref b_1)]))
  have K_14 : Keep h0 h_12 [] := Keep.wr (ws := []) K_10 W_12 (Or.inr (Nat.le_of_eq g_1.symm))
  obtain ⟨_, _, ⟨T_15, L_15, k_15, n_15⟩, -, X_15, ⟨Lc_15, hQ_15, l_15, y_15, z_15⟩, st_15⟩ := Jvm.LawKit.callS X_12 hx (y := (⟨"com/example/hollow_crown/hollowcrown/instance/InstanceIdIpOfPinLaw", "draw", "(I)C"⟩ : MethodName)) hown (mvT hZ (own_w hw 1 rfl)) (mvT hZ (own_w hw 2 rfl)) (mvT hZ (own_w hw 3 rfl)) (mvT hZ (own_w hw 4 rfl)) (by decide) (backOf (W := 2) (rmdraw l Z a0 hw [] p2 h_12 n0 (Nat.le_trans Z0 K_14.1) ) hZ (own_w hw 4 rfl) (own_w hw 3 rfl) (by decide) (by decide)) (g := (mkF m 35 #[.val (.int p1), .val (.int p2), .val (.int p3), .val (.ref b_1), .unset, .unset, .unset, .unset, .unset, .unset] [(.int p2), (.int (3 : Int32)), (.ref b_1)])) rfl (by rw [hml]; rfl) (argsL := [(.int p2)]) (rest := [(.int (3 : Int32)), (.ref b_1)]) (lenOf pd_20 rfl) rfl (by show 2 * 0 + _ ≤ _; exact Nat.le_of_eq rfl) (hb hby at_35) (fun _ _ => ⟨rfl, e_12, (by decide : 1 + 0 ≤ _), (by decide : 6 + 0 ≤ _)⟩)
  dsimp only [Pt.U, Pt.locs, Pt.cells, Pt.slots] at X_15 l_15 y_15 z_15 st_15 hQ_15
  subst l_15 y_15 z_15
  obtain ⟨d3, rfl, Nq_15, e_15, q_15_0⟩ := hQ_15
  have N_15 := Fr.app N_12 Nq_15
  refine own_via st_15 ?_
  show own_Go p e below _ (T_15.setTop (mkF m 38 #[.val (.int p1), .val (.int p2), .val (.int p3), .val (.ref b_1), .unset, .unset, .unset, .unset, .unset, .unset] [(.int d3), (.int (3 : Int32)), (.ref b_1)]))
  obtain ⟨cl_16, Ar_16, q_16, S_16, M_16, H_16, G_16⟩ := (id V_13)
  obtain ⟨T_16, h_16, X_16, e_16, W_16, st_16⟩ := stC X_15 hx hZ e_15 Ar_16 (j := (3 : Int32)) (inb_of S_16 ⟨by decide, by decide⟩) (g := (mkF m 38 #[.val (.int p1), .val (.int p2), .val (.int p3), .val (.ref b_1), .unset, .unset, .unset, .unset, .unset, .unset] [(.int d3), (.int (3 : Int32)), (.ref b_1)])) rfl rfl (hb hby at_38)
  have V_16 : Arv Z h_16 b_1 k_1 .char (6 : Int32) [(.int d0), (.int d1), (.int d2), (.int (nar .char d3)), (.int (0 : Int32)), (.int (0 : Int32))] (.int (0 : Int32)) := Arv.set Ar_16 q_16 S_16 M_16 H_16 G_16 (fits_nar_char _) W_16 3 rfl (Nat.le_of_ble_eq_true rfl)
  have N_16 := Fr.snoc X_16 N_15 (Nat.le_trans Z0 (Nat.le_of_eq g_1.symm))
  refine own_via st_16 ?_
  show own_Go p e below _ (T_16.setTop (mkF m 39 #[.val (.int p1), .val (.int p2), .val (.int p3), .val (.ref b_1), .unset, .unset, .unset, .unset, .unset, .unset] []))
  have V_17 : Arv Z h_16 b_1 k_1 .char (6 : Int32) [(.int d0), (.int d1), (.int d2), (.int d3), (.int (0 : Int32)), (.int (0 : Int32))] (.int (0 : Int32)) := by have q := V_16; rwa [own_nar q_15_0] at q
  refine own_via (fun _ => XS.aloadN X_16.here hx rfl (hb hby at_39) rfl rfl) ?_
  show own_Go p e below _ (T_16.setTop (mkF m 40 #[.val (.int p1), .val (.int p2), .val (.int p3), .val (.ref b_1), .unset, .unset, .unset, .unset, .unset, .unset] [(.ref b_1)]))
  refine own_via (fun _ => XS.iconst X_16.here hx rfl (hb hby at_40)) ?_
  show own_Go p e below _ (T_16.setTop (mkF m 41 #[.val (.int p1), .val (.int p2), .val (.int p3), .val (.ref b_1), .unset, .unset, .unset, .unset, .unset, .unset] [(.int (4 : Int32)), (.ref b_1)]))
  refine own_via (fun _ => XS.iloadN X_16.here hx rfl (hb hby at_41) rfl) ?_
  show own_Go p e below _ (T_16.setTop (mkF m 42 #[.val (.int p1), .val (.int p2), .val (.int p3), .val (.ref b_1), .unset, .unset, .unset, .unset, .unset, .unset] [(.int p2), (.int (4 : Int32)), (.ref b_1)]))
  refine own_via (fun _ => XS.bipush X_16.here hx rfl (hb hby at_42)) ?_
  show own_Go p e below _ (T_16.setTop (mkF m 44 #[.val (.int p1), .val (.int p2), .val (.int p3), .val (.ref b_1), .unset, .unset, .unset, .unset, .unset, .unset] [(.int (10 : Int32)), (.int p2), (.int (4 : Int32)), (.ref b_1)]))
  refine own_via (fun _ => XS.iushr X_16.here hx rfl (hb hby at_44) rfl) ?_
  show own_Go p e below _ (T_16.setTop (mkF m 45 #[.val (.int p1), .val (.int p2), .val (.int p3), .val (.ref b_1), .unset, .unset, .unset, .unset, .unset, .unset] [(.int ((p2.toUInt32 >>> ((10 : Int32) &&& 31).toUInt32).toInt32)), (.int (4 : Int32)), (.ref b_1)]))
  have K_18 : Keep h0 h_16 [] := Keep.wr (ws := []) K_14 W_16 (Or.inr (Nat.le_of_eq g_1.symm))
  obtain ⟨_, _, ⟨T_19, L_19, k_19, n_19⟩, -, X_19, ⟨Lc_19, hQ_19, l_19, y_19, z_19⟩, st_19⟩ := Jvm.LawKit.callS X_16 hx (y := (⟨"com/example/hollow_crown/hollowcrown/instance/InstanceIdIpOfPinLaw", "draw", "(I)C"⟩ : MethodName)) hown (mvT hZ (own_w hw 1 rfl)) (mvT hZ (own_w hw 2 rfl)) (mvT hZ (own_w hw 3 rfl)) (mvT hZ (own_w hw 4 rfl)) (by decide) (backOf (W := 2) (rmdraw l Z a0 hw [] ((p2.toUInt32 >>> ((10 : Int32) &&& 31).toUInt32).toInt32) h_16 n0 (Nat.le_trans Z0 K_18.1) ) hZ (own_w hw 4 rfl) (own_w hw 3 rfl) (by decide) (by decide)) (g := (mkF m 45 #[.val (.int p1), .val (.int p2), .val (.int p3), .val (.ref b_1), .unset, .unset, .unset, .unset, .unset, .unset] [(.int ((p2.toUInt32 >>> ((10 : Int32) &&& 31).toUInt32).toInt32)), (.int (4 : Int32)), (.ref b_1)])) rfl (by rw [hml]; rfl) (argsL := [(.int ((p2.toUInt32 >>> ((10 : Int32) &&& 31).toUInt32).toInt32))]) (rest := [(.int (4 : Int32)), (.ref b_1)]) (lenOf pd_20 rfl) rfl (by show 2 * 0 + _ ≤ _; exact Nat.le_of_eq rfl) (hb hby at_45) (fun _ _ => ⟨rfl, e_16, (by decide : 1 + 0 ≤ _), (by decide : 6 + 0 ≤ _)⟩)
  dsimp only [Pt.U, Pt.locs, Pt.cells, Pt.slots] at X_19 l_19 y_19 z_19 st_19 hQ_19
  subst l_19 y_19 z_19
  obtain ⟨d4, rfl, Nq_19, e_19, q_19_0⟩ := hQ_19
  have N_19 := Fr.app N_16 Nq_19
  refine own_via st_19 ?_
  show own_Go p e below _ (T_19.setTop (mkF m 48 #[.val (.int p1), .val (.int p2), .val (.int p3), .val (.ref b_1), .unset, .unset, .unset, .unset, .unset, .unset] [(.int d4), (.int (4 : Int32)), (.ref b_1)]))
  obtain ⟨cl_20, Ar_20, q_20, S_20, M_20, H_20, G_20⟩ := (id V_17)
  obtain ⟨T_20, h_20, X_20, e_20, W_20, st_20⟩ := stC X_19 hx hZ e_19 Ar_20 (j := (4 : Int32)) (inb_of S_20 ⟨by decide, by decide⟩) (g := (mkF m 48 #[.val (.int p1), .val (.int p2), .val (.int p3), .val (.ref b_1), .unset, .unset, .unset, .unset, .unset, .unset] [(.int d4), (.int (4 : Int32)), (.ref b_1)])) rfl rfl (hb hby at_48)
  have V_20 : Arv Z h_20 b_1 k_1 .char (6 : Int32) [(.int d0), (.int d1), (.int d2), (.int d3), (.int (nar .char d4)), (.int (0 : Int32))] (.int (0 : Int32)) := Arv.set Ar_20 q_20 S_20 M_20 H_20 G_20 (fits_nar_char _) W_20 4 rfl (Nat.le_of_ble_eq_true rfl)
  have N_20 := Fr.snoc X_20 N_19 (Nat.le_trans Z0 (Nat.le_of_eq g_1.symm))
  refine own_via st_20 ?_
  show own_Go p e below _ (T_20.setTop (mkF m 49 #[.val (.int p1), .val (.int p2), .val (.int p3), .val (.ref b_1), .unset, .unset, .unset, .unset, .unset, .unset] []))
  have V_21 : Arv Z h_20 b_1 k_1 .char (6 : Int32) [(.int d0), (.int d1), (.int d2), (.int d3), (.int d4), (.int (0 : Int32))] (.int (0 : Int32)) := by have q := V_20; rwa [own_nar q_19_0] at q
  refine own_via (fun _ => XS.aloadN X_20.here hx rfl (hb hby at_49) rfl rfl) ?_
  show own_Go p e below _ (T_20.setTop (mkF m 50 #[.val (.int p1), .val (.int p2), .val (.int p3), .val (.ref b_1), .unset, .unset, .unset, .unset, .unset, .unset] [(.ref b_1)]))
  refine own_via (fun _ => XS.iconst X_20.here hx rfl (hb hby at_50)) ?_
  show own_Go p e below _ (T_20.setTop (mkF m 51 #[.val (.int p1), .val (.int p2), .val (.int p3), .val (.ref b_1), .unset, .unset, .unset, .unset, .unset, .unset] [(.int (5 : Int32)), (.ref b_1)]))
  refine own_via (fun _ => XS.iloadN X_20.here hx rfl (hb hby at_51) rfl) ?_
  show own_Go p e below _ (T_20.setTop (mkF m 52 #[.val (.int p1), .val (.int p2), .val (.int p3), .val (.ref b_1), .unset, .unset, .unset, .unset, .unset, .unset] [(.int p2), (.int (5 : Int32)), (.ref b_1)]))
  refine own_via (fun _ => XS.bipush X_20.here hx rfl (hb hby at_52)) ?_
  show own_Go p e below _ (T_20.setTop (mkF m 54 #[.val (.int p1), .val (.int p2), .val (.int p3), .val (.ref b_1), .unset, .unset, .unset, .unset, .unset, .unset] [(.int (20 : Int32)), (.int p2), (.int (5 : Int32)), (.ref b_1)]))
  refine own_via (fun _ => XS.iushr X_20.here hx rfl (hb hby at_54) rfl) ?_
  show own_Go p e below _ (T_20.setTop (mkF m 55 #[.val (.int p1), .val (.int p2), .val (.int p3), .val (.ref b_1), .unset, .unset, .unset, .unset, .unset, .unset] [(.int ((p2.toUInt32 >>> ((20 : Int32) &&& 31).toUInt32).toInt32)), (.int (5 : Int32)), (.ref b_1)]))
  have K_22 : Keep h0 h_20 [] := Keep.wr (ws := []) K_18 W_20 (Or.inr (Nat.le_of_eq g_1.symm))
  obtain ⟨_, _, ⟨T_23, L_23, k_23, n_23⟩, -, X_23, ⟨Lc_23, hQ_23, l_23, y_23, z_23⟩, st_23⟩ := Jvm.LawKit.callS X_20 hx (y := (⟨"com/example/hollow_crown/hollowcrown/instance/InstanceIdIpOfPinLaw", "draw", "(I)C"⟩ : MethodName)) hown (mvT hZ (own_w hw 1 rfl)) (mvT hZ (own_w hw 2 rfl)) (mvT hZ (own_w hw 3 rfl)) (mvT hZ (own_w hw 4 rfl)) (by decide) (backOf (W := 2) (rmdraw l Z a0 hw [] ((p2.toUInt32 >>> ((20 : Int32) &&& 31).toUInt32).toInt32) h_20 n0 (Nat.le_trans Z0 K_22.1) ) hZ (own_w hw 4 rfl) (own_w hw 3 rfl) (by decide) (by decide)) (g := (mkF m 55 #[.val (.int p1), .val (.int p2), .val (.int p3), .val (.ref b_1), .unset, .unset, .unset, .unset, .unset, .unset] [(.int ((p2.toUInt32 >>> ((20 : Int32) &&& 31).toUInt32).toInt32)), (.int (5 : Int32)), (.ref b_1)])) rfl (by rw [hml]; rfl) (argsL := [(.int ((p2.toUInt32 >>> ((20 : Int32) &&& 31).toUInt32).toInt32))]) (rest := [(.int (5 : Int32)), (.ref b_1)]) (lenOf pd_20 rfl) rfl (by show 2 * 0 + _ ≤ _; exact Nat.le_of_eq rfl) (hb hby at_55) (fun _ _ => ⟨rfl, e_20, (by decide : 1 + 0 ≤ _), (by decide : 6 + 0 ≤ _)⟩)
  dsimp only [Pt.U, Pt.locs, Pt.cells, Pt.slots] at X_23 l_23 y_23 z_23 st_23 hQ_23
  subst l_23 y_23 z_23
  obtain ⟨d5, rfl, Nq_23, e_23, q_23_0⟩ := hQ_23
  have N_23 := Fr.app N_20 Nq_23
  refine own_via st_23 ?_
  show own_Go p e below _ (T_23.setTop (mkF m 58 #[.val (.int p1), .val (.int p2), .val (.int p3), .val (.ref b_1), .unset, .unset, .unset, .unset, .unset, .unset] [(.int d5), (.int (5 : Int32)), (.ref b_1)]))
  obtain ⟨cl_24, Ar_24, q_24, S_24, M_24, H_24, G_24⟩ := (id V_21)
  obtain ⟨T_24, h_24, X_24, e_24, W_24, st_24⟩ := stC X_23 hx hZ e_23 Ar_24 (j := (5 : Int32)) (inb_of S_24 ⟨by decide, by decide⟩) (g := (mkF m 58 #[.val (.int p1), .val (.int p2), .val (.int p3), .val (.ref b_1), .unset, .unset, .unset, .unset, .unset, .unset] [(.int d5), (.int (5 : Int32)), (.ref b_1)])) rfl rfl (hb hby at_58)
  have V_24 : Arv Z h_24 b_1 k_1 .char (6 : Int32) [(.int d0), (.int d1), (.int d2), (.int d3), (.int d4), (.int (nar .char d5))] (.int (0 : Int32)) := Arv.set Ar_24 q_24 S_24 M_24 H_24 G_24 (fits_nar_char _) W_24 5 rfl (Nat.le_of_ble_eq_true rfl)
  have N_24 := Fr.snoc X_24 N_23 (Nat.le_trans Z0 (Nat.le_of_eq g_1.symm))
  refine own_via st_24 ?_
  show own_Go p e below _ (T_24.setTop (mkF m 59 #[.val (.int p1), .val (.int p2), .val (.int p3), .val (.ref b_1), .unset, .unset, .unset, .unset, .unset, .unset] []))
  have V_25 : Arv Z h_24 b_1 k_1 .char (6 : Int32) [(.int d0), (.int d1), (.int d2), (.int d3), (.int d4), (.int d5)] (.int (0 : Int32)) := by have q := V_24; rwa [own_nar q_23_0] at q
  refine own_via (fun _ => XS.iloadN X_24.here hx rfl (hb hby at_59) rfl) ?_
  show own_Go p e below _ (T_24.setTop (mkF m 60 #[.val (.int p1), .val (.int p2), .val (.int p3), .val (.ref b_1), .unset, .unset, .unset, .unset, .unset, .unset] [(.int p3)]))
  refine own_via (fun _ => XS.bipush X_24.here hx rfl (hb hby at_60)) ?_
  show own_Go p e below _ (T_24.setTop (mkF m 62 #[.val (.int p1), .val (.int p2), .val (.int p3), .val (.ref b_1), .unset, .unset, .unset, .unset, .unset, .unset] [(.int (7 : Int32)), (.int p3)]))
  refine own_via (fun _ => XS.iand X_24.here hx rfl (hb hby at_62) rfl) ?_
  show own_Go p e below _ (T_24.setTop (mkF m 63 #[.val (.int p1), .val (.int p2), .val (.int p3), .val (.ref b_1), .unset, .unset, .unset, .unset, .unset, .unset] [(.int (p3 &&& (7 : Int32)))]))
  refine own_via (fun _ => XS.bipush X_24.here hx rfl (hb hby at_63)) ?_
  show own_Go p e below _ (T_24.setTop (mkF m 65 #[.val (.int p1), .val (.int p2), .val (.int p3), .val (.ref b_1), .unset, .unset, .unset, .unset, .unset, .unset] [(.int (7 : Int32)), (.int (p3 &&& (7 : Int32)))]))
  refine own_via (fun _ => iremM (g := (mkF m 65 #[.val (.int p1), .val (.int p2), .val (.int p3), .val (.ref b_1), .unset, .unset, .unset, .unset, .unset, .unset] [(.int (7 : Int32)), (.int (p3 &&& (7 : Int32)))])) X_24 hx rfl (hb hby at_65) rfl (by decide)) ?_
  show own_Go p e below _ (T_24.setTop (mkF m 66 #[.val (.int p1), .val (.int p2), .val (.int p3), .val (.ref b_1), .unset, .unset, .unset, .unset, .unset, .unset] [(.int ((p3 &&& (7 : Int32)) % (7 : Int32)))]))
  refine own_via (fun _ => XS.istore X_24.here hx rfl (hb hby at_66) rfl (l' := #[.val (.int p1), .val (.int p2), .val (.int p3), .val (.ref b_1), .val (.int ((p3 &&& (7 : Int32)) % (7 : Int32))), .unset, .unset, .unset, .unset, .unset]) rfl) ?_
  show own_Go p e below _ (T_24.setTop (mkF m 68 #[.val (.int p1), .val (.int p2), .val (.int p3), .val (.ref b_1), .val (.int ((p3 &&& (7 : Int32)) % (7 : Int32))), .unset, .unset, .unset, .unset, .unset] []))
  refine own_via (fun _ => XS.iloadN X_24.here hx rfl (hb hby at_68) rfl) ?_
  show own_Go p e below _ (T_24.setTop (mkF m 69 #[.val (.int p1), .val (.int p2), .val (.int p3), .val (.ref b_1), .val (.int ((p3 &&& (7 : Int32)) % (7 : Int32))), .unset, .unset, .unset, .unset, .unset] [(.int p3)]))
  refine own_via (fun _ => XS.iconst X_24.here hx rfl (hb hby at_69)) ?_
  show own_Go p e below _ (T_24.setTop (mkF m 70 #[.val (.int p1), .val (.int p2), .val (.int p3), .val (.ref b_1), .val (.int ((p3 &&& (7 : Int32)) % (7 : Int32))), .unset, .unset, .unset, .unset, .unset] [(.int (3 : Int32)), (.int p3)]))
  refine own_via (fun _ => XS.iushr X_24.here hx rfl (hb hby at_70) rfl) ?_
  show own_Go p e below _ (T_24.setTop (mkF m 71 #[.val (.int p1), .val (.int p2), .val (.int p3), .val (.ref b_1), .val (.int ((p3 &&& (7 : Int32)) % (7 : Int32))), .unset, .unset, .unset, .unset, .unset] [(.int ((p3.toUInt32 >>> ((3 : Int32) &&& 31).toUInt32).toInt32))]))
  refine own_via (fun _ => XS.bipush X_24.here hx rfl (hb hby at_71)) ?_
  show own_Go p e below _ (T_24.setTop (mkF m 73 #[.val (.int p1), .val (.int p2), .val (.int p3), .val (.ref b_1), .val (.int ((p3 &&& (7 : Int32)) % (7 : Int32))), .unset, .unset, .unset, .unset, .unset] [(.int (7 : Int32)), (.int ((p3.toUInt32 >>> ((3 : Int32) &&& 31).toUInt32).toInt32))]))
  refine own_via (fun _ => XS.iand X_24.here hx rfl (hb hby at_73) rfl) ?_
  show own_Go p e below _ (T_24.setTop (mkF m 74 #[.val (.int p1), .val (.int p2), .val (.int p3), .val (.ref b_1), .val (.int ((p3 &&& (7 : Int32)) % (7 : Int32))), .unset, .unset, .unset, .unset, .unset] [(.int (((p3.toUInt32 >>> ((3 : Int32) &&& 31).toUInt32).toInt32) &&& (7 : Int32)))]))
  refine own_via (fun _ => XS.istore X_24.here hx rfl (hb hby at_74) rfl (l' := #[.val (.int p1), .val (.int p2), .val (.int p3), .val (.ref b_1), .val (.int ((p3 &&& (7 : Int32)) % (7 : Int32))), .val (.int (((p3.toUInt32 >>> ((3 : Int32) &&& 31).toUInt32).toInt32) &&& (7 : Int32))), .unset, .unset, .unset, .unset]) rfl) ?_
  show own_Go p e below _ (T_24.setTop (mkF m 76 #[.val (.int p1), .val (.int p2), .val (.int p3), .val (.ref b_1), .val (.int ((p3 &&& (7 : Int32)) % (7 : Int32))), .val (.int (((p3.toUInt32 >>> ((3 : Int32) &&& 31).toUInt32).toInt32) &&& (7 : Int32))), .unset, .unset, .unset, .unset] []))
  refine own_via (fun _ => XS.iload X_24.here hx rfl (hb hby at_76) rfl) ?_
  show own_Go p e below _ (T_24.setTop (mkF m 78 #[.val (.int p1), .val (.int p2), .val (.int p3), .val (.ref b_1), .val (.int ((p3 &&& (7 : Int32)) % (7 : Int32))), .val (.int (((p3.toUInt32 >>> ((3 : Int32) &&& 31).toUInt32).toInt32) &&& (7 : Int32))), .unset, .unset, .unset, .unset] [(.int (((p3.toUInt32 >>> ((3 : Int32) &&& 31).toUInt32).toInt32) &&& (7 : Int32)))]))
  refine own_via (fun _ => XS.iconst X_24.here hx rfl (hb hby at_78)) ?_
  show own_Go p e below _ (T_24.setTop (mkF m 79 #[.val (.int p1), .val (.int p2), .val (.int p3), .val (.ref b_1), .val (.int ((p3 &&& (7 : Int32)) % (7 : Int32))), .val (.int (((p3.toUInt32 >>> ((3 : Int32) &&& 31).toUInt32).toInt32) &&& (7 : Int32))), .unset, .unset, .unset, .unset] [(.int (4 : Int32)), (.int (((p3.toUInt32 >>> ((3 : Int32) &&& 31).toUInt32).toInt32) &&& (7 : Int32)))]))
  have kj_26 : ∀ (T_27 : State) (L_28 : List Loc) (c0 : Int32) (hb0 : ¬ c0 < 0 ∧ ¬ (255 : Int32) < c0) (c1 : Int32) (hb1 : ¬ c1 < 0 ∧ ¬ (255 : Int32) < c1) (c2 : Int32) (hb2 : ¬ c2 < 0 ∧ ¬ (255 : Int32) < c2) (c3 : Int32) (hb3 : ¬ c3 < 0 ∧ ¬ (255 : Int32) < c3) (c4 : Int32) (hb4 : ¬ c4 < 0 ∧ ¬ (255 : Int32) < c4) (c5 : Int32) (hb5 : ¬ c5 < 0 ∧ ¬ (255 : Int32) < c5) (ff : Int32) (X_30 : Stand p l e room_1 (s.setVm s.vm) m #[(.int p1), (.int p2), (.int p3)] below meth c T_27 L_28 1 6) (h_29 : Heap) (e_30 : T_27.heap = h_29) (K_30 : Keep h_24 h_29 [b_1]) (VC : Arv Z h_29 b_1 k_1 .char (6 : Int32) [(.int c0), (.int c1), (.int c2), (.int c3), (.int c4), (.int c5)] (.int (0 : Int32))) (N_30 : Fr n0 L_28), own_Go p e below (fun o U' => ∃ v L, o = .returned v ∧ Q0 Z p1 p2 p3 cs sf h0 n0 v U'.heap L U'.vm ∧ ReturnedEndW s o U' L room_1.cells room_1.slots) (T_27.setTop (mkF m 104 #[.val (.int p1), .val (.int p2), .val (.int p3), .val (.ref b_1), .val (.int ((p3 &&& (7 : Int32)) % (7 : Int32))), .val (.int ff), .unset, .unset, .unset, .unset] [])) := by
    intro T_27 L_28 c0 hb0 c1 hb1 c2 hb2 c3 hb3 c4 hb4 c5 hb5 ff X_30 h_29 e_30 K_30 VC N_30
    obtain ⟨nn, hnn⟩ : ∃ z : Int32, z = ((p3 &&& (7 : Int32)) % (7 : Int32)) := ⟨_, rfl⟩
    rw [← hnn]
    have hn := own_n7 hnn
    show own_Go p e below _ (T_27.setTop (mkF m 104 #[.val (.int p1), .val (.int p2), .val (.int p3), .val (.ref b_1), .val (.int nn), .val (.int ff), .unset, .unset, .unset, .unset] []))
    have hpc : ∀ c ∈ ([c0, c1, c2, c3, c4, c5] : List Int32).take nn.toNatClampNeg, ¬ c < 0 ∧ ¬ (255 : Int32) < c := fun c hc => own_all6 hb0 hb1 hb2 hb3 hb4 hb5 c (List.mem_of_mem_take hc)
    refine own_via (fun _ => XS.iload X_30.here hx rfl (hb hby at_104) rfl) ?_
    show own_Go p e below _ (T_27.setTop (mkF m 106 #[.val (.int p1), .val (.int p2), .val (.int p3), .val (.ref b_1), .val (.int nn), .val (.int ff), .unset, .unset, .unset, .unset] [(.int nn)]))
    refine own_via (fun _ => XS.aloadN X_30.here hx rfl (hb hby at_106) rfl rfl) ?_
    show own_Go p e below _ (T_27.setTop (mkF m 107 #[.val (.int p1), .val (.int p2), .val (.int p3), .val (.ref b_1), .val (.int nn), .val (.int ff), .unset, .unset, .unset, .unset] [(.ref b_1), (.int nn)]))
    have K_31 : Keep h0 h_24 [] := Keep.wr (ws := []) K_22 W_24 (Or.inr (Nat.le_of_eq g_1.symm))
    have K_32 : Keep h0 h_29 [] := Keep.trans (ws := []) K_31 K_30 (allS (Or.inr (Nat.le_of_eq g_1.symm)) all0)
    obtain ⟨_, _, ⟨T_33, L_33, k_33, n_33⟩, -, Xc_33, hSc_33, hgc_33, ⟨Lc_33, hQ_33, l_33, y_33, z_33⟩, st_33⟩ := callSS X_30 hx (y := (⟨"com/example/hollow_crown/hollowcrown/instance/InstanceIdIpOfPinLaw", "mk", "(I[C)Ljava/lang/String;"⟩ : MethodName)) hown (mvT hZ (own_w hw 5 rfl)) (mvT hZ (own_w hw 6 rfl)) (mvT hZ (own_w hw 3 rfl)) (mvT hZ (own_w hw 7 rfl)) (by decide) (own_backS (J := fun vm_ => CHv Z consts_1 vm_ h_29) (W := 0) (rmmk l Z a0 hw [] nn b_1 k_1 c0 c1 c2 c3 c4 c5 cs h_29 n0 (Nat.le_trans Z0 K_32.1) (O0.keep K_32 all0) Scs hcs VC hn hb0 hb1 hb2 hb3 hb4 hb5) hZ (own_w hw 7 rfl) (own_w hw 3 rfl) (by decide) (by decide)) (g := (mkF m 107 #[.val (.int p1), .val (.int p2), .val (.int p3), .val (.ref b_1), .val (.int nn), .val (.int ff), .unset, .unset, .unset, .unset] [(.ref b_1), (.int nn)])) rfl (by rw [hml]; rfl) (argsL := [(.int nn), (.ref b_1)]) (rest := []) (lenOf pd_21 rfl) rfl (by show 2 * 0 + _ ≤ _; exact Nat.le_of_eq rfl) (hb hby at_107) (fun _ hW1 => ⟨rfl, e_30, (own_CHstay (J0.keep K_32 all0) hZ (own_EW hw) hW1), (by decide : 1 + 4 ≤ _), (by decide : 6 + 20 ≤ _)⟩)
    dsimp only [Pt.U, Pt.locs, Pt.cells, Pt.slots] at Xc_33 hSc_33 hgc_33 l_33 y_33 z_33 st_33 hQ_33
    subst l_33 y_33 z_33
    obtain ⟨X_33, hS_33, hZ_33, ho_33⟩ := rebS hS0 (by rw [e_30]; exact (Nat.le_trans (Nat.zero_le _) K_32.1)) Xc_33 hSc_33 hgc_33 hZ hown
    obtain ⟨r_34, rfl, Nq_33, K_33q, q_33_0, q_33_1, q_33_2, J_33⟩ := hQ_33
    have N_33 := Fr.app N_30 Nq_33
    refine own_via (fun _ k => st_33.trans k) ?_
    show own_Go p e below _ (T_33.setTop (mkF m 110 #[.val (.int p1), .val (.int p2), .val (.int p3), .val (.ref b_1), .val (.int nn), .val (.int ff), .unset, .unset, .unset, .unset] [(.ref r_34)]))
    refine own_via (fun _ => XS.astore X_33.here hx rfl (hb hby at_110) rfl rfl (l' := #[.val (.int p1), .val (.int p2), .val (.int p3), .val (.ref b_1), .val (.int nn), .val (.int ff), .val (.ref r_34), .unset, .unset, .unset]) rfl) ?_
    show own_Go p e below _ (T_33.setTop (mkF m 112 #[.val (.int p1), .val (.int p2), .val (.int p3), .val (.ref b_1), .val (.int nn), .val (.int ff), .val (.ref r_34), .unset, .unset, .unset] []))
    refine own_via (fun _ => XS.iconst X_33.here hx rfl (hb hby at_112)) ?_
    show own_Go p e below _ (T_33.setTop (mkF m 113 #[.val (.int p1), .val (.int p2), .val (.int p3), .val (.ref b_1), .val (.int nn), .val (.int ff), .val (.ref r_34), .unset, .unset, .unset] [(.int (-1 : Int32))]))
    refine own_via (fun _ => XS.istore X_33.here hx rfl (hb hby at_113) rfl (l' := #[.val (.int p1), .val (.int p2), .val (.int p3), .val (.ref b_1), .val (.int nn), .val (.int ff), .val (.ref r_34), .val (.int (-1 : Int32)), .unset, .unset]) rfl) ?_
    show own_Go p e below _ (T_33.setTop (mkF m 115 #[.val (.int p1), .val (.int p2), .val (.int p3), .val (.ref b_1), .val (.int nn), .val (.int ff), .val (.ref r_34), .val (.int (-1 : Int32)), .unset, .unset] []))
    refine own_via (fun _ => XS.aloadN X_33.here hx rfl (hb hby at_115) rfl rfl) ?_
    show own_Go p e below _ (T_33.setTop (mkF m 116 #[.val (.int p1), .val (.int p2), .val (.int p3), .val (.ref b_1), .val (.int nn), .val (.int ff), .val (.ref r_34), .val (.int (-1 : Int32)), .unset, .unset] [(.ref b_1)]))
    refine own_via (fun _ => XS.iload X_33.here hx rfl (hb hby at_116) rfl) ?_
    show own_Go p e below _ (T_33.setTop (mkF m 118 #[.val (.int p1), .val (.int p2), .val (.int p3), .val (.ref b_1), .val (.int nn), .val (.int ff), .val (.ref r_34), .val (.int (-1 : Int32)), .unset, .unset] [(.int nn), (.ref b_1)]))
    refine own_via (fun _ => XS.iconst X_33.here hx rfl (hb hby at_118)) ?_
    show own_Go p e below _ (T_33.setTop (mkF m 119 #[.val (.int p1), .val (.int p2), .val (.int p3), .val (.ref b_1), .val (.int nn), .val (.int ff), .val (.ref r_34), .val (.int (-1 : Int32)), .unset, .unset] [(.int (3 : Int32)), (.int nn), (.ref b_1)]))
    have K_35 : Keep h_29 T_33.heap [] := Keep.trans (ws := []) (Keep.refl h_29 []) K_33q all0
    have K_36 : Keep h0 T_33.heap [] := Keep.trans (ws := []) K_32 K_33q all0
    obtain ⟨_, _, ⟨T_37, L_37, k_37, n_37⟩, -, X_37, ⟨Lc_37, hQ_37, l_37, y_37, z_37⟩, st_37⟩ := Jvm.LawKit.callS X_33 hx (y := (⟨"com/example/hollow_crown/hollowcrown/instance/InstanceIdIpOfPinLaw", "sepAt", "([CII)Z"⟩ : MethodName)) ho_33 (mvT hZ_33 (own_w hw 37 rfl)) (mvT hZ_33 (own_w hw 38 rfl)) (mvT hZ_33 (own_w hw 3 rfl)) (mvT hZ_33 (own_w hw 39 rfl)) (by decide) (backOf (W := 0) (rmsep3 l Z a0 hw [] b_1 nn k_1 c0 c1 c2 c3 c4 c5 T_33.heap n0 (Nat.le_trans Z0 K_36.1) (VC.keep K_35 nin0)) hZ_33 (own_w hw 39 rfl) (own_w hw 3 rfl) (by decide) (by decide)) (g := (mkF m 119 #[.val (.int p1), .val (.int p2), .val (.int p3), .val (.ref b_1), .val (.int nn), .val (.int ff), .val (.ref r_34), .val (.int (-1 : Int32)), .unset, .unset] [(.int (3 : Int32)), (.int nn), (.ref b_1)])) rfl (by rw [hml]; rfl) (argsL := [(.ref b_1), (.int nn), (.int (3 : Int32))]) (rest := []) (lenOf pd_22 rfl) rfl (by show 2 * 0 + _ ≤ _; exact Nat.le_of_eq rfl) (hb hby at_119) (fun _ _ => ⟨rfl, rfl, (by decide : 5 + 0 ≤ _), (by decide : 26 + 0 ≤ _)⟩)
    dsimp only [Pt.U, Pt.locs, Pt.cells, Pt.slots] at X_37 l_37 y_37 z_37 st_37 hQ_37
    subst l_37 y_37 z_37
    obtain ⟨z3, rfl, Nq_37, e_37, q_37_0⟩ := hQ_37
    have N_37 := Fr.app N_33 Nq_37
    refine own_via st_37 ?_
    show own_Go p e below _ (T_37.setTop (mkF m 122 #[.val (.int p1), .val (.int p2), .val (.int p3), .val (.ref b_1), .val (.int nn), .val (.int ff), .val (.ref r_34), .val (.int (-1 : Int32)), .unset, .unset] [(.int z3)]))
    have hz3 := q_37_0
    have kj_38 : ∀ (T_39 : State) (L_40 : List Loc) (e3 : Int32) (he3 : e3 = if z3 = (0 : Int32) then (-1 : Int32) else 3) (X_42 : Stand p l e room_1 (s.setVm T_33.vm) m #[(.int p1), (.int p2), (.int p3)] below meth c T_39 L_40 5 26) (e_42 : T_39.heap = T_33.heap) (N_42 : Fr n0 L_40), own_Go p e below (fun o U' => ∃ v L, o = .returned v ∧ Q0 Z p1 p2 p3 cs sf h0 n0 v U'.heap L U'.vm ∧ ReturnedEndW s o U' L room_1.cells room_1.slots) (T_39.setTop (mkF m 128 #[.val (.int p1), .val (.int p2), .val (.int p3), .val (.ref b_1), .val (.int nn), .val (.int ff), .val (.ref r_34), .val (.int e3), .unset, .unset] [])) := by
      intro T_39 L_40 e3 he3 X_42 e_42 N_42
      refine own_via (fun _ => XS.aloadN X_42.here hx rfl (hb hby at_128) rfl rfl) ?_
      show own_Go p e below _ (T_39.setTop (mkF m 129 #[.val (.int p1), .val (.int p2), .val (.int p3), .val (.ref b_1), .val (.int nn), .val (.int ff), .val (.ref r_34), .val (.int e3), .unset, .unset] [(.ref b_1)]))
      refine own_via (fun _ => XS.iload X_42.here hx rfl (hb hby at_129) rfl) ?_
      show own_Go p e below _ (T_39.setTop (mkF m 131 #[.val (.int p1), .val (.int p2), .val (.int p3), .val (.ref b_1), .val (.int nn), .val (.int ff), .val (.ref r_34), .val (.int e3), .unset, .unset] [(.int nn), (.ref b_1)]))
      refine own_via (fun _ => XS.iconst X_42.here hx rfl (hb hby at_131)) ?_
      show own_Go p e below _ (T_39.setTop (mkF m 132 #[.val (.int p1), .val (.int p2), .val (.int p3), .val (.ref b_1), .val (.int nn), .val (.int ff), .val (.ref r_34), .val (.int e3), .unset, .unset] [(.int (2 : Int32)), (.int nn), (.ref b_1)]))
      obtain ⟨_, _, ⟨T_43, L_43, k_43, n_43⟩, -, X_43, ⟨Lc_43, hQ_43, l_43, y_43, z_43⟩, st_43⟩ := Jvm.LawKit.callS X_42 hx (y := (⟨"com/example/hollow_crown/hollowcrown/instance/InstanceIdIpOfPinLaw", "sepAt", "([CII)Z"⟩ : MethodName)) ho_33 (mvT hZ_33 (own_w hw 37 rfl)) (mvT hZ_33 (own_w hw 38 rfl)) (mvT hZ_33 (own_w hw 3 rfl)) (mvT hZ_33 (own_w hw 39 rfl)) (by decide) (backOf (W := 0) (rmsep2 l Z a0 hw [] b_1 nn k_1 c0 c1 c2 c3 c4 c5 T_33.heap n0 (Nat.le_trans Z0 K_36.1) (VC.keep K_35 nin0)) hZ_33 (own_w hw 39 rfl) (own_w hw 3 rfl) (by decide) (by decide)) (g := (mkF m 132 #[.val (.int p1), .val (.int p2), .val (.int p3), .val (.ref b_1), .val (.int nn), .val (.int ff), .val (.ref r_34), .val (.int e3), .unset, .unset] [(.int (2 : Int32)), (.int nn), (.ref b_1)])) rfl (by rw [hml]; rfl) (argsL := [(.ref b_1), (.int nn), (.int (2 : Int32))]) (rest := []) (lenOf pd_22 rfl) rfl (by show 2 * 0 + _ ≤ _; exact Nat.le_of_eq rfl) (hb hby at_132) (fun _ _ => ⟨rfl, e_42, (by decide : 5 + 0 ≤ _), (by decide : 26 + 0 ≤ _)⟩)
      dsimp only [Pt.U, Pt.locs, Pt.cells, Pt.slots] at X_43 l_43 y_43 z_43 st_43 hQ_43
      subst l_43 y_43 z_43
      obtain ⟨z2, rfl, Nq_43, e_43, q_43_0⟩ := hQ_43
      have N_43 := Fr.app N_42 Nq_43
      refine own_via st_43 ?_
      show own_Go p e below _ (T_43.setTop (mkF m 135 #[.val (.int p1), .val (.int p2), .val (.int p3), .val (.ref b_1), .val (.int nn), .val (.int ff), .val (.ref r_34), .val (.int e3), .unset, .unset] [(.int z2)]))
      have hz2 := q_43_0
      have kj_44 : ∀ (T_45 : State) (L_46 : List Loc) (e2 : Int32) (he2 : e2 = if z2 = (0 : Int32) then e3 else 2) (X_48 : Stand p l e room_1 (s.setVm T_33.vm) m #[(.int p1), (.int p2), (.int p3)] below meth c T_45 L_46 5 26) (e_48 : T_45.heap = T_33.heap) (N_48 : Fr n0 L_46), own_Go p e below (fun o U' => ∃ v L, o = .returned v ∧ Q0 Z p1 p2 p3 cs sf h0 n0 v U'.heap L U'.vm ∧ ReturnedEndW s o U' L room_1.cells room_1.slots) (T_45.setTop (mkF m 141 #[.val (.int p1), .val (.int p2), .val (.int p3), .val (.ref b_1), .val (.int nn), .val (.int ff), .val (.ref r_34), .val (.int e2), .unset, .unset] [])) := by
        intro T_45 L_46 e2 he2 X_48 e_48 N_48
        refine own_via (fun _ => XS.aloadN X_48.here hx rfl (hb hby at_141) rfl rfl) ?_
        show own_Go p e below _ (T_45.setTop (mkF m 142 #[.val (.int p1), .val (.int p2), .val (.int p3), .val (.ref b_1), .val (.int nn), .val (.int ff), .val (.ref r_34), .val (.int e2), .unset, .unset] [(.ref b_1)]))
        refine own_via (fun _ => XS.iload X_48.here hx rfl (hb hby at_142) rfl) ?_
        show own_Go p e below _ (T_45.setTop (mkF m 144 #[.val (.int p1), .val (.int p2), .val (.int p3), .val (.ref b_1), .val (.int nn), .val (.int ff), .val (.ref r_34), .val (.int e2), .unset, .unset] [(.int nn), (.ref b_1)]))
        refine own_via (fun _ => XS.iconst X_48.here hx rfl (hb hby at_144)) ?_
        show own_Go p e below _ (T_45.setTop (mkF m 145 #[.val (.int p1), .val (.int p2), .val (.int p3), .val (.ref b_1), .val (.int nn), .val (.int ff), .val (.ref r_34), .val (.int e2), .unset, .unset] [(.int (1 : Int32)), (.int nn), (.ref b_1)]))
        obtain ⟨_, _, ⟨T_49, L_49, k_49, n_49⟩, -, X_49, ⟨Lc_49, hQ_49, l_49, y_49, z_49⟩, st_49⟩ := Jvm.LawKit.callS X_48 hx (y := (⟨"com/example/hollow_crown/hollowcrown/instance/InstanceIdIpOfPinLaw", "sepAt", "([CII)Z"⟩ : MethodName)) ho_33 (mvT hZ_33 (own_w hw 37 rfl)) (mvT hZ_33 (own_w hw 38 rfl)) (mvT hZ_33 (own_w hw 3 rfl)) (mvT hZ_33 (own_w hw 39 rfl)) (by decide) (backOf (W := 0) (rmsep1 l Z a0 hw [] b_1 nn k_1 c0 c1 c2 c3 c4 c5 T_33.heap n0 (Nat.le_trans Z0 K_36.1) (VC.keep K_35 nin0)) hZ_33 (own_w hw 39 rfl) (own_w hw 3 rfl) (by decide) (by decide)) (g := (mkF m 145 #[.val (.int p1), .val (.int p2), .val (.int p3), .val (.ref b_1), .val (.int nn), .val (.int ff), .val (.ref r_34), .val (.int e2), .unset, .unset] [(.int (1 : Int32)), (.int nn), (.ref b_1)])) rfl (by rw [hml]; rfl) (argsL := [(.ref b_1), (.int nn), (.int (1 : Int32))]) (rest := []) (lenOf pd_22 rfl) rfl (by show 2 * 0 + _ ≤ _; exact Nat.le_of_eq rfl) (hb hby at_145) (fun _ _ => ⟨rfl, e_48, (by decide : 5 + 0 ≤ _), (by decide : 26 + 0 ≤ _)⟩)
        dsimp only [Pt.U, Pt.locs, Pt.cells, Pt.slots] at X_49 l_49 y_49 z_49 st_49 hQ_49
        subst l_49 y_49 z_49
        obtain ⟨z1, rfl, Nq_49, e_49, q_49_0⟩ := hQ_49
        have N_49 := Fr.app N_48 Nq_49
        refine own_via st_49 ?_
        show own_Go p e below _ (T_49.setTop (mkF m 148 #[.val (.int p1), .val (.int p2), .val (.int p3), .val (.ref b_1), .val (.int nn), .val (.int ff), .val (.ref r_34), .val (.int e2), .unset, .unset] [(.int z1)]))
        have hz1 := q_49_0
        have kj_50 : ∀ (T_51 : State) (L_52 : List Loc) (e1 : Int32) (he1 : e1 = if z1 = (0 : Int32) then e2 else 1) (X_54 : Stand p l e room_1 (s.setVm T_33.vm) m #[(.int p1), (.int p2), (.int p3)] below meth c T_51 L_52 5 26) (e_54 : T_51.heap = T_33.heap) (N_54 : Fr n0 L_52), own_Go p e below (fun o U' => ∃ v L, o = .returned v ∧ Q0 Z p1 p2 p3 cs sf h0 n0 v U'.heap L U'.vm ∧ ReturnedEndW s o U' L room_1.cells room_1.slots) (T_51.setTop (mkF m 154 #[.val (.int p1), .val (.int p2), .val (.int p3), .val (.ref b_1), .val (.int nn), .val (.int ff), .val (.ref r_34), .val (.int e1), .unset, .unset] [])) := by
          intro T_51 L_52 e1 he1 X_54 e_54 N_54
          refine own_via (fun _ => XS.aloadN X_54.here hx rfl (hb hby at_154) rfl rfl) ?_
          show own_Go p e below _ (T_51.setTop (mkF m 155 #[.val (.int p1), .val (.int p2), .val (.int p3), .val (.ref b_1), .val (.int nn), .val (.int ff), .val (.ref r_34), .val (.int e1), .unset, .unset] [(.ref b_1)]))
          refine own_via (fun _ => XS.iload X_54.here hx rfl (hb hby at_155) rfl) ?_
          show own_Go p e below _ (T_51.setTop (mkF m 157 #[.val (.int p1), .val (.int p2), .val (.int p3), .val (.ref b_1), .val (.int nn), .val (.int ff), .val (.ref r_34), .val (.int e1), .unset, .unset] [(.int nn), (.ref b_1)]))
          refine own_via (fun _ => XS.iconst X_54.here hx rfl (hb hby at_157)) ?_
          show own_Go p e below _ (T_51.setTop (mkF m 158 #[.val (.int p1), .val (.int p2), .val (.int p3), .val (.ref b_1), .val (.int nn), .val (.int ff), .val (.ref r_34), .val (.int e1), .unset, .unset] [(.int (0 : Int32)), (.int nn), (.ref b_1)]))
          obtain ⟨_, _, ⟨T_55, L_55, k_55, n_55⟩, -, X_55, ⟨Lc_55, hQ_55, l_55, y_55, z_55⟩, st_55⟩ := Jvm.LawKit.callS X_54 hx (y := (⟨"com/example/hollow_crown/hollowcrown/instance/InstanceIdIpOfPinLaw", "sepAt", "([CII)Z"⟩ : MethodName)) ho_33 (mvT hZ_33 (own_w hw 37 rfl)) (mvT hZ_33 (own_w hw 38 rfl)) (mvT hZ_33 (own_w hw 3 rfl)) (mvT hZ_33 (own_w hw 39 rfl)) (by decide) (backOf (W := 0) (rmsep0 l Z a0 hw [] b_1 nn k_1 c0 c1 c2 c3 c4 c5 T_33.heap n0 (Nat.le_trans Z0 K_36.1) (VC.keep K_35 nin0)) hZ_33 (own_w hw 39 rfl) (own_w hw 3 rfl) (by decide) (by decide)) (g := (mkF m 158 #[.val (.int p1), .val (.int p2), .val (.int p3), .val (.ref b_1), .val (.int nn), .val (.int ff), .val (.ref r_34), .val (.int e1), .unset, .unset] [(.int (0 : Int32)), (.int nn), (.ref b_1)])) rfl (by rw [hml]; rfl) (argsL := [(.ref b_1), (.int nn), (.int (0 : Int32))]) (rest := []) (lenOf pd_22 rfl) rfl (by show 2 * 0 + _ ≤ _; exact Nat.le_of_eq rfl) (hb hby at_158) (fun _ _ => ⟨rfl, e_54, (by decide : 5 + 0 ≤ _), (by decide : 26 + 0 ≤ _)⟩)
          dsimp only [Pt.U, Pt.locs, Pt.cells, Pt.slots] at X_55 l_55 y_55 z_55 st_55 hQ_55
          subst l_55 y_55 z_55
          obtain ⟨z0, rfl, Nq_55, e_55, q_55_0⟩ := hQ_55
          have N_55 := Fr.app N_54 Nq_55
          refine own_via st_55 ?_
          show own_Go p e below _ (T_55.setTop (mkF m 161 #[.val (.int p1), .val (.int p2), .val (.int p3), .val (.ref b_1), .val (.int nn), .val (.int ff), .val (.ref r_34), .val (.int e1), .unset, .unset] [(.int z0)]))
          have hz0 := q_55_0
          have kj_56 : ∀ (T_57 : State) (L_58 : List Loc) (e0 : Int32) (he0 : e0 = if z0 = (0 : Int32) then e1 else 0) (X_60 : Stand p l e room_1 (s.setVm T_33.vm) m #[(.int p1), (.int p2), (.int p3)] below meth c T_57 L_58 5 26) (e_60 : T_57.heap = T_33.heap) (N_60 : Fr n0 L_58), own_Go p e below (fun o U' => ∃ v L, o = .returned v ∧ Q0 Z p1 p2 p3 cs sf h0 n0 v U'.heap L U'.vm ∧ ReturnedEndW s o U' L room_1.cells room_1.slots) (T_57.setTop (mkF m 167 #[.val (.int p1), .val (.int p2), .val (.int p3), .val (.ref b_1), .val (.int nn), .val (.int ff), .val (.ref r_34), .val (.int e0), .unset, .unset] [])) := by
            intro T_57 L_58 e0 he0 X_60 e_60 N_60
            refine own_via (fun _ => XS.iload X_60.here hx rfl (hb hby at_167) rfl) ?_
            show own_Go p e below _ (T_57.setTop (mkF m 169 #[.val (.int p1), .val (.int p2), .val (.int p3), .val (.ref b_1), .val (.int nn), .val (.int ff), .val (.ref r_34), .val (.int e0), .unset, .unset] [(.int e0)]))
            rcases own_cases he3 he2 he1 he0 hz3 hz2 hz1 hz0 hn with ⟨rfl, hall⟩ | ⟨k, hk, hk3, hat, hlo⟩
            · show own_Go p e below _ (T_57.setTop (mkF m 169 #[.val (.int p1), .val (.int p2), .val (.int p3), .val (.ref b_1), .val (.int nn), .val (.int ff), .val (.ref r_34), .val (.int (-1 : Int32)), .unset, .unset] [(.int (-1 : Int32))]))
              refine own_via (fun _ => XS.ifNo X_60.here hx rfl (hb hby at_169) rfl ((if0 _ _).trans (tlt ((by decide) : (-1 : Int32) < (0 : Int32))).2.1)) ?_
              show own_Go p e below _ (T_57.setTop (mkF m 172 #[.val (.int p1), .val (.int p2), .val (.int p3), .val (.ref b_1), .val (.int nn), .val (.int ff), .val (.ref r_34), .val (.int (-1 : Int32)), .unset, .unset] []))
              refine own_via (fun _ => XS.iload X_60.here hx rfl (hb hby at_172) rfl) ?_
              show own_Go p e below _ (T_57.setTop (mkF m 174 #[.val (.int p1), .val (.int p2), .val (.int p3), .val (.ref b_1), .val (.int nn), .val (.int ff), .val (.ref r_34), .val (.int (-1 : Int32)), .unset, .unset] [(.int nn)]))
              refine own_via (fun _ => XS.aloadN X_60.here hx rfl (hb hby at_174) rfl rfl) ?_
              show own_Go p e below _ (T_57.setTop (mkF m 175 #[.val (.int p1), .val (.int p2), .val (.int p3), .val (.ref b_1), .val (.int nn), .val (.int ff), .val (.ref r_34), .val (.int (-1 : Int32)), .unset, .unset] [(.ref b_1), (.int nn)]))
              obtain ⟨_, _, ⟨T_61, L_61, k_61, n_61⟩, -, Xc_61, hSc_61, hgc_61, ⟨Lc_61, hQ_61, l_61, y_61, z_61⟩, st_61⟩ := callSS X_60 hx (y := (⟨"com/example/hollow_crown/hollowcrown/instance/InstanceIdIpOfPinLaw", "mk", "(I[C)Ljava/lang/String;"⟩ : MethodName)) ho_33 (mvT hZ_33 (own_w hw 5 rfl)) (mvT hZ_33 (own_w hw 6 rfl)) (mvT hZ_33 (own_w hw 3 rfl)) (mvT hZ_33 (own_w hw 7 rfl)) (by decide) (own_backS (J := fun vm_ => CHv Z consts_1 vm_ T_33.heap) (W := 0) (rmmk l Z a0 hw [] nn b_1 k_1 c0 c1 c2 c3 c4 c5 cs T_33.heap n0 (Nat.le_trans Z0 K_36.1) (O0.keep K_36 all0) Scs hcs (VC.keep K_35 nin0) hn hb0 hb1 hb2 hb3 hb4 hb5) hZ_33 (own_w hw 7 rfl) (own_w hw 3 rfl) (by decide) (by decide)) (g := (mkF m 175 #[.val (.int p1), .val (.int p2), .val (.int p3), .val (.ref b_1), .val (.int nn), .val (.int ff), .val (.ref r_34), .val (.int (-1 : Int32)), .unset, .unset] [(.ref b_1), (.int nn)])) rfl (by rw [hml]; rfl) (argsL := [(.int nn), (.ref b_1)]) (rest := []) (lenOf pd_21 rfl) rfl (by show 2 * 0 + _ ≤ _; exact Nat.le_of_eq rfl) (hb hby at_175) (fun _ hW1 => ⟨rfl, e_60, (own_CHstay J_33 hZ_33 (own_EW hw) hW1), (by decide : 5 + 4 ≤ _), (by decide : 26 + 20 ≤ _)⟩)
              dsimp only [Pt.U, Pt.locs, Pt.cells, Pt.slots] at Xc_61 hSc_61 hgc_61 l_61 y_61 z_61 st_61 hQ_61
              subst l_61 y_61 z_61
              obtain ⟨X_61, hS_61, hZ_61, ho_61⟩ := rebS hS_33 (by rw [e_60]; exact (Nat.le_refl _)) Xc_61 hSc_61 hgc_61 hZ_33 ho_33
              obtain ⟨r_62, rfl, Nq_61, K_61q, q_61_0, q_61_1, q_61_2, J_61⟩ := hQ_61
              have N_61 := Fr.app N_60 Nq_61
              refine own_via (fun _ k => st_61.trans k) ?_
              show own_Go p e below _ (T_61.setTop (mkF m 178 #[.val (.int p1), .val (.int p2), .val (.int p3), .val (.ref b_1), .val (.int nn), .val (.int ff), .val (.ref r_34), .val (.int (-1 : Int32)), .unset, .unset] [(.ref r_62)]))
              refine own_via (fun _ => XS.goto X_61.here hx rfl (pc0 := 178) (pc' := 187) rfl (hb hby at_178) (by decide) (by decide)) ?_
              show own_Go p e below _ (T_61.setTop (mkF m 187 #[.val (.int p1), .val (.int p2), .val (.int p3), .val (.ref b_1), .val (.int nn), .val (.int ff), .val (.ref r_34), .val (.int (-1 : Int32)), .unset, .unset] [(.ref r_62)]))
              refine own_via (fun _ => XS.astore X_61.here hx rfl (hb hby at_187) rfl rfl (l' := #[.val (.int p1), .val (.int p2), .val (.int p3), .val (.ref b_1), .val (.int nn), .val (.int ff), .val (.ref r_34), .val (.int (-1 : Int32)), .val (.ref r_62), .unset]) rfl) ?_
              show own_Go p e below _ (T_61.setTop (mkF m 189 #[.val (.int p1), .val (.int p2), .val (.int p3), .val (.ref b_1), .val (.int nn), .val (.int ff), .val (.ref r_34), .val (.int (-1 : Int32)), .val (.ref r_62), .unset] []))
              refine own_via (fun _ => XS.aload X_61.here hx rfl (hb hby at_189) rfl rfl) ?_
              show own_Go p e below _ (T_61.setTop (mkF m 191 #[.val (.int p1), .val (.int p2), .val (.int p3), .val (.ref b_1), .val (.int nn), .val (.int ff), .val (.ref r_34), .val (.int (-1 : Int32)), .val (.ref r_62), .unset] [(.ref r_34)]))
              have K_63 : Keep T_33.heap T_61.heap [] := Keep.trans (ws := []) (Keep.refl T_33.heap []) K_61q all0
              have K_64 : Keep h0 T_61.heap [] := Keep.trans (ws := []) K_36 K_61q all0
              obtain ⟨_, _, ⟨T_65, L_65, k_65, n_65⟩, -, Xc_65, hSc_65, hgc_65, ⟨Lc_65, hQ_65, l_65, y_65, z_65⟩, st_65⟩ := callSS X_61 hx (y := (⟨"com/example/hollow_crown/hollowcrown/instance/InstanceId", "ipOf", "(Ljava/lang/String;)Ljava/lang/String;"⟩ : MethodName)) ho_61 (mvT hZ_61 (own_w hw 40 rfl)) (mvT hZ_61 (own_w hw 41 rfl)) (mvT hZ_61 (own_w hw 42 rfl)) (mvT hZ_61 (own_w hw 43 rfl)) (by decide) (own_backS (J := fun vm_ => CHv Z consts_1 vm_ T_61.heap) (W := 0) (rmipOf l Z a0 hw [] r_34 ([c0, c1, c2, c3, c4, c5].take nn.toNatClampNeg) cs sf T_61.heap n0 (Nat.le_trans Z0 K_64.1) (O0.keep K_64 all0) Scs hcs Ssf hsf (q_33_2.keep0 K_63) (own_len6 _)) hZ_61 (own_w hw 43 rfl) (own_w hw 42 rfl) (by decide) (by decide)) (g := (mkF m 191 #[.val (.int p1), .val (.int p2), .val (.int p3), .val (.ref b_1), .val (.int nn), .val (.int ff), .val (.ref r_34), .val (.int (-1 : Int32)), .val (.ref r_62), .unset] [(.ref r_34)])) rfl (by rw [hml]; rfl) (argsL := [(.ref r_34)]) (rest := []) (lenOf pd_23 rfl) rfl (by show 2 * 0 + _ ≤ _; exact Nat.le_of_eq rfl) (hb hby at_191) (fun _ hW1 => ⟨rfl, rfl, (own_CHstay J_61 hZ_61 (own_EW hw) hW1), (by decide : 9 + 6 ≤ _), (by decide : 46 + 30 ≤ _)⟩)
              dsimp only [Pt.U, Pt.locs, Pt.cells, Pt.slots] at Xc_65 hSc_65 hgc_65 l_65 y_65 z_65 st_65 hQ_65
              subst l_65 y_65 z_65
              obtain ⟨X_65, hS_65, hZ_65, ho_65⟩ := rebS hS_61 (Nat.le_refl _) Xc_65 hSc_65 hgc_65 hZ_61 ho_61
              obtain ⟨r_66, u_67, rfl, Nq_65, K_65q, q_65_0, q_65_1, q_65_2, J_65⟩ := hQ_65
              have N_65 := Fr.app N_61 Nq_65
              refine own_via (fun _ k => st_65.trans k) ?_
              show own_Go p e below _ (T_65.setTop (mkF m 194 #[.val (.int p1), .val (.int p2), .val (.int p3), .val (.ref b_1), .val (.int nn), .val (.int ff), .val (.ref r_34), .val (.int (-1 : Int32)), .val (.ref r_62), .unset] [(.ref r_66)]))
              refine own_via (fun _ => XS.astore X_65.here hx rfl (hb hby at_194) rfl rfl (l' := #[.val (.int p1), .val (.int p2), .val (.int p3), .val (.ref b_1), .val (.int nn), .val (.int ff), .val (.ref r_34), .val (.int (-1 : Int32)), .val (.ref r_62), .val (.ref r_66)]) rfl) ?_
              show own_Go p e below _ (T_65.setTop (mkF m 196 #[.val (.int p1), .val (.int p2), .val (.int p3), .val (.ref b_1), .val (.int nn), .val (.int ff), .val (.ref r_34), .val (.int (-1 : Int32)), .val (.ref r_62), .val (.ref r_66)] []))
              refine own_via (fun _ => XS.aload X_65.here hx rfl (hb hby at_196) rfl rfl) ?_
              show own_Go p e below _ (T_65.setTop (mkF m 198 #[.val (.int p1), .val (.int p2), .val (.int p3), .val (.ref b_1), .val (.int nn), .val (.int ff), .val (.ref r_34), .val (.int (-1 : Int32)), .val (.ref r_62), .val (.ref r_66)] [(.ref r_66)]))
              refine own_via (fun _ => XS.ifnullNo X_65.here hx rfl (hb hby at_198) rfl) ?_
              show own_Go p e below _ (T_65.setTop (mkF m 201 #[.val (.int p1), .val (.int p2), .val (.int p3), .val (.ref b_1), .val (.int nn), .val (.int ff), .val (.ref r_34), .val (.int (-1 : Int32)), .val (.ref r_62), .val (.ref r_66)] []))
              refine own_via (fun _ => XS.aload X_65.here hx rfl (hb hby at_201) rfl rfl) ?_
              show own_Go p e below _ (T_65.setTop (mkF m 203 #[.val (.int p1), .val (.int p2), .val (.int p3), .val (.ref b_1), .val (.int nn), .val (.int ff), .val (.ref r_34), .val (.int (-1 : Int32)), .val (.ref r_62), .val (.ref r_66)] [(.ref r_66)]))
              refine own_via (fun _ => XS.aload X_65.here hx rfl (hb hby at_203) rfl rfl) ?_
              show own_Go p e below _ (T_65.setTop (mkF m 205 #[.val (.int p1), .val (.int p2), .val (.int p3), .val (.ref b_1), .val (.int nn), .val (.int ff), .val (.ref r_34), .val (.int (-1 : Int32)), .val (.ref r_62), .val (.ref r_66)] [(.ref r_62), (.ref r_66)]))
              have K_69 : Keep h0 T_65.heap [] := Keep.trans (ws := []) K_64 K_65q all0
              have K_70 : Keep T_61.heap T_65.heap [] := Keep.trans (ws := []) (Keep.refl T_61.heap []) K_65q all0
              obtain ⟨E_68a, C_68a, ⟨t_68a, k_68a, V_68a, K_68a⟩, p_68a, l_68a⟩ := q_65_1
              obtain ⟨E_68b, C_68b, ⟨t_68b, k_68b, V_68b, K_68b⟩, p_68b, l_68b⟩ := (q_61_2.keep0 K_70)
              obtain ⟨cq_71, kq_71, q_71a, q_71b, q_71c⟩ := isOf hZ_65 rfl E_68a
              obtain ⟨_, _, ⟨T_71, L_71, k_71, n_71⟩, -, X_71, ⟨Lc_71, hQ_71, l_71, y_71, z_71⟩, st_71⟩ := X_65.virtualBack hx (y := (⟨"java/lang/String", "equals", "(Ljava/lang/Object;)Z"⟩ : MethodName)) (z := (⟨"java/lang/String", "equals", "(Ljava/lang/Object;)Z"⟩ : MethodName)) ho_65 (mvT hZ_65 (own_w hw 69 rfl)) (mvT hZ_65 (own_w hw 70 rfl)) (notFace_of_selects (args := #[]) (mvT hZ_65 (own_w hw 72 rfl))) (mvT hZ_65 (own_w hw 72 rfl)) (mvT hZ_65 (own_w hw 71 rfl)) (by decide) (StrChars.Road.eqW (W := 0) hZ_65 (own_hwordsEq hw) (kI := 4) (own_w hw 9 rfl) E_68a V_68a C_68a K_68a (StrChars.Road.codOf rfl (fun c hc => (p_68a c hc).2)) (own_up p_68a) l_68a E_68b V_68b C_68b K_68b (StrChars.Road.codOf rfl (fun c hc => (p_68b c hc).2)) (own_up p_68b) l_68b (Scs.ext (O0.keep K_69 all0).2) hcs (by decide) (by decide)) q_71a q_71c (g := (mkF m 205 #[.val (.int p1), .val (.int p2), .val (.int p3), .val (.ref b_1), .val (.int nn), .val (.int ff), .val (.ref r_34), .val (.int (-1 : Int32)), .val (.ref r_62), .val (.ref r_66)] [(.ref r_62), (.ref r_66)])) rfl (by rw [hml]; rfl) (Steps.refl _) (argsL := [(.ref r_62)]) (rest := []) (lenOf pd_24 rfl) rfl (by show 2 * 0 + _ ≤ _; exact Nat.le_of_eq rfl) (hb hby at_205) (fun _ _ => ⟨rfl, rfl, (by decide : 15 + 0 ≤ _), (by decide : 76 + 0 ≤ _)⟩)
              dsimp only [Pt.U, Pt.locs, Pt.cells, Pt.slots] at X_71 l_71 y_71 z_71 st_71 hQ_71
              subst l_71 y_71 z_71
              obtain ⟨hv_71, rfl, e_71⟩ := hQ_71
              have N_71 := Fr.app N_65 (Fr.nil n0)
              rcases hv_71 with ⟨rfl, hq_71⟩ | ⟨rfl, hq_71⟩
              · refine own_via (fun _ k => st_71.trans k) ?_
                show own_Go p e below _ (T_71.setTop (mkF m 208 #[.val (.int p1), .val (.int p2), .val (.int p3), .val (.ref b_1), .val (.int nn), .val (.int ff), .val (.ref r_34), .val (.int (-1 : Int32)), .val (.ref r_62), .val (.ref r_66)] [(.int (1 : Int32))]))
                refine own_via (fun _ => XS.ifNo X_71.here hx rfl (hb hby at_208) rfl ((if0 _ _).trans (feq ((by decide) : ¬ ((1 : Int32) = (0 : Int32)))).1)) ?_
                show own_Go p e below _ (T_71.setTop (mkF m 211 #[.val (.int p1), .val (.int p2), .val (.int p3), .val (.ref b_1), .val (.int nn), .val (.int ff), .val (.ref r_34), .val (.int (-1 : Int32)), .val (.ref r_62), .val (.ref r_66)] []))
                refine own_via (fun _ => XS.iconst X_71.here hx rfl (hb hby at_211)) ?_
                show own_Go p e below _ (T_71.setTop (mkF m 212 #[.val (.int p1), .val (.int p2), .val (.int p3), .val (.ref b_1), .val (.int nn), .val (.int ff), .val (.ref r_34), .val (.int (-1 : Int32)), .val (.ref r_62), .val (.ref r_66)] [(.int (1 : Int32))]))
                refine own_via (fun _ => XS.goto X_71.here hx rfl (pc0 := 212) (pc' := 216) rfl (hb hby at_212) (by decide) (by decide)) ?_
                show own_Go p e below _ (T_71.setTop (mkF m 216 #[.val (.int p1), .val (.int p2), .val (.int p3), .val (.ref b_1), .val (.int nn), .val (.int ff), .val (.ref r_34), .val (.int (-1 : Int32)), .val (.ref r_62), .val (.ref r_66)] [(.int (1 : Int32))]))
                exact own_retvW X_71 hS_65 (by rw [e_71]; exact (Nat.le_refl _)) Bd.notSynchronized hx Bd.returns rfl (Or.inl ⟨rfl, (by simp), _, rfl⟩) (hb hby at_216) (by decide) (by decide) (by rw [e_71]; exact ⟨rfl, N_71, K_69⟩)
              · refine own_via (fun _ k => st_71.trans k) ?_
                show own_Go p e below _ (T_71.setTop (mkF m 208 #[.val (.int p1), .val (.int p2), .val (.int p3), .val (.ref b_1), .val (.int nn), .val (.int ff), .val (.ref r_34), .val (.int (-1 : Int32)), .val (.ref r_62), .val (.ref r_66)] [(.int (0 : Int32))]))
                exact absurd (own_none q_65_2 hall hpc) hq_71
            · subst hk
              show own_Go p e below _ (T_57.setTop (mkF m 169 #[.val (.int p1), .val (.int p2), .val (.int p3), .val (.ref b_1), .val (.int nn), .val (.int ff), .val (.ref r_34), .val (.int (Int32.ofNat k)), .unset, .unset] [(.int (Int32.ofNat k))]))
              refine own_via (fun _ => XS.ifYes X_60.here hx rfl (pc0 := 169) (pc' := 181) rfl (hb hby at_169) rfl ((if0 _ _).trans (flt (own_nn (by omega) : ¬ ((Int32.ofNat k) < (0 : Int32)))).2.1) (by decide) (by decide)) ?_
              show own_Go p e below _ (T_57.setTop (mkF m 181 #[.val (.int p1), .val (.int p2), .val (.int p3), .val (.ref b_1), .val (.int nn), .val (.int ff), .val (.ref r_34), .val (.int (Int32.ofNat k)), .unset, .unset] []))
              refine own_via (fun _ => XS.iload X_60.here hx rfl (hb hby at_181) rfl) ?_
              show own_Go p e below _ (T_57.setTop (mkF m 183 #[.val (.int p1), .val (.int p2), .val (.int p3), .val (.ref b_1), .val (.int nn), .val (.int ff), .val (.ref r_34), .val (.int (Int32.ofNat k)), .unset, .unset] [(.int (Int32.ofNat k))]))
              refine own_via (fun _ => XS.aloadN X_60.here hx rfl (hb hby at_183) rfl rfl) ?_
              show own_Go p e below _ (T_57.setTop (mkF m 184 #[.val (.int p1), .val (.int p2), .val (.int p3), .val (.ref b_1), .val (.int nn), .val (.int ff), .val (.ref r_34), .val (.int (Int32.ofNat k)), .unset, .unset] [(.ref b_1), (.int (Int32.ofNat k))]))
              obtain ⟨_, _, ⟨T_72, L_72, k_72, n_72⟩, -, Xc_72, hSc_72, hgc_72, ⟨Lc_72, hQ_72, l_72, y_72, z_72⟩, st_72⟩ := callSS X_60 hx (y := (⟨"com/example/hollow_crown/hollowcrown/instance/InstanceIdIpOfPinLaw", "mk", "(I[C)Ljava/lang/String;"⟩ : MethodName)) ho_33 (mvT hZ_33 (own_w hw 5 rfl)) (mvT hZ_33 (own_w hw 6 rfl)) (mvT hZ_33 (own_w hw 3 rfl)) (mvT hZ_33 (own_w hw 7 rfl)) (by decide) (own_backS (J := fun vm_ => CHv Z consts_1 vm_ T_33.heap) (W := 0) (rmmk l Z a0 hw [] (Int32.ofNat k) b_1 k_1 c0 c1 c2 c3 c4 c5 cs T_33.heap n0 (Nat.le_trans Z0 K_36.1) (O0.keep K_36 all0) Scs hcs (VC.keep K_35 nin0) (own_k7 hk3) hb0 hb1 hb2 hb3 hb4 hb5) hZ_33 (own_w hw 7 rfl) (own_w hw 3 rfl) (by decide) (by decide)) (g := (mkF m 184 #[.val (.int p1), .val (.int p2), .val (.int p3), .val (.ref b_1), .val (.int nn), .val (.int ff), .val (.ref r_34), .val (.int (Int32.ofNat k)), .unset, .unset] [(.ref b_1), (.int (Int32.ofNat k))])) rfl (by rw [hml]; rfl) (argsL := [(.int (Int32.ofNat k)), (.ref b_1)]) (rest := []) (lenOf pd_21 rfl) rfl (by show 2 * 0 + _ ≤ _; exact Nat.le_of_eq rfl) (hb hby at_184) (fun _ hW1 => ⟨rfl, e_60, (own_CHstay J_33 hZ_33 (own_EW hw) hW1), (by decide : 5 + 4 ≤ _), (by decide : 26 + 20 ≤ _)⟩)
              dsimp only [Pt.U, Pt.locs, Pt.cells, Pt.slots] at Xc_72 hSc_72 hgc_72 l_72 y_72 z_72 st_72 hQ_72
              subst l_72 y_72 z_72
              obtain ⟨X_72, hS_72, hZ_72, ho_72⟩ := rebS hS_33 (by rw [e_60]; exact (Nat.le_refl _)) Xc_72 hSc_72 hgc_72 hZ_33 ho_33
              obtain ⟨r_73, rfl, Nq_72, K_72q, q_72_0, q_72_1, q_72_2, J_72⟩ := hQ_72
              have N_72 := Fr.app N_60 Nq_72
              refine own_via (fun _ k => st_72.trans k) ?_
              show own_Go p e below _ (T_72.setTop (mkF m 187 #[.val (.int p1), .val (.int p2), .val (.int p3), .val (.ref b_1), .val (.int nn), .val (.int ff), .val (.ref r_34), .val (.int (Int32.ofNat k)), .unset, .unset] [(.ref r_73)]))
              refine own_via (fun _ => XS.astore X_72.here hx rfl (hb hby at_187) rfl rfl (l' := #[.val (.int p1), .val (.int p2), .val (.int p3), .val (.ref b_1), .val (.int nn), .val (.int ff), .val (.ref r_34), .val (.int (Int32.ofNat k)), .val (.ref r_73), .unset]) rfl) ?_
              show own_Go p e below _ (T_72.setTop (mkF m 189 #[.val (.int p1), .val (.int p2), .val (.int p3), .val (.ref b_1), .val (.int nn), .val (.int ff), .val (.ref r_34), .val (.int (Int32.ofNat k)), .val (.ref r_73), .unset] []))
              refine own_via (fun _ => XS.aload X_72.here hx rfl (hb hby at_189) rfl rfl) ?_
              show own_Go p e below _ (T_72.setTop (mkF m 191 #[.val (.int p1), .val (.int p2), .val (.int p3), .val (.ref b_1), .val (.int nn), .val (.int ff), .val (.ref r_34), .val (.int (Int32.ofNat k)), .val (.ref r_73), .unset] [(.ref r_34)]))
              have K_74 : Keep T_33.heap T_72.heap [] := Keep.trans (ws := []) (Keep.refl T_33.heap []) K_72q all0
              have K_75 : Keep h0 T_72.heap [] := Keep.trans (ws := []) K_36 K_72q all0
              obtain ⟨_, _, ⟨T_76, L_76, k_76, n_76⟩, -, Xc_76, hSc_76, hgc_76, ⟨Lc_76, hQ_76, l_76, y_76, z_76⟩, st_76⟩ := callSS X_72 hx (y := (⟨"com/example/hollow_crown/hollowcrown/instance/InstanceId", "ipOf", "(Ljava/lang/String;)Ljava/lang/String;"⟩ : MethodName)) ho_72 (mvT hZ_72 (own_w hw 40 rfl)) (mvT hZ_72 (own_w hw 41 rfl)) (mvT hZ_72 (own_w hw 42 rfl)) (mvT hZ_72 (own_w hw 43 rfl)) (by decide) (own_backS (J := fun vm_ => CHv Z consts_1 vm_ T_72.heap) (W := 0) (rmipOf l Z a0 hw [] r_34 ([c0, c1, c2, c3, c4, c5].take nn.toNatClampNeg) cs sf T_72.heap n0 (Nat.le_trans Z0 K_75.1) (O0.keep K_75 all0) Scs hcs Ssf hsf (q_33_2.keep0 K_74) (own_len6 _)) hZ_72 (own_w hw 43 rfl) (own_w hw 42 rfl) (by decide) (by decide)) (g := (mkF m 191 #[.val (.int p1), .val (.int p2), .val (.int p3), .val (.ref b_1), .val (.int nn), .val (.int ff), .val (.ref r_34), .val (.int (Int32.ofNat k)), .val (.ref r_73), .unset] [(.ref r_34)])) rfl (by rw [hml]; rfl) (argsL := [(.ref r_34)]) (rest := []) (lenOf pd_23 rfl) rfl (by show 2 * 0 + _ ≤ _; exact Nat.le_of_eq rfl) (hb hby at_191) (fun _ hW1 => ⟨rfl, rfl, (own_CHstay J_72 hZ_72 (own_EW hw) hW1), (by decide : 9 + 6 ≤ _), (by decide : 46 + 30 ≤ _)⟩)
              dsimp only [Pt.U, Pt.locs, Pt.cells, Pt.slots] at Xc_76 hSc_76 hgc_76 l_76 y_76 z_76 st_76 hQ_76
              subst l_76 y_76 z_76
              obtain ⟨X_76, hS_76, hZ_76, ho_76⟩ := rebS hS_72 (Nat.le_refl _) Xc_76 hSc_76 hgc_76 hZ_72 ho_72
              obtain ⟨r_77, u_78, rfl, Nq_76, K_76q, q_76_0, q_76_1, q_76_2, J_76⟩ := hQ_76
              have N_76 := Fr.app N_72 Nq_76
              refine own_via (fun _ k => st_76.trans k) ?_
              show own_Go p e below _ (T_76.setTop (mkF m 194 #[.val (.int p1), .val (.int p2), .val (.int p3), .val (.ref b_1), .val (.int nn), .val (.int ff), .val (.ref r_34), .val (.int (Int32.ofNat k)), .val (.ref r_73), .unset] [(.ref r_77)]))
              refine own_via (fun _ => XS.astore X_76.here hx rfl (hb hby at_194) rfl rfl (l' := #[.val (.int p1), .val (.int p2), .val (.int p3), .val (.ref b_1), .val (.int nn), .val (.int ff), .val (.ref r_34), .val (.int (Int32.ofNat k)), .val (.ref r_73), .val (.ref r_77)]) rfl) ?_
              show own_Go p e below _ (T_76.setTop (mkF m 196 #[.val (.int p1), .val (.int p2), .val (.int p3), .val (.ref b_1), .val (.int nn), .val (.int ff), .val (.ref r_34), .val (.int (Int32.ofNat k)), .val (.ref r_73), .val (.ref r_77)] []))
              refine own_via (fun _ => XS.aload X_76.here hx rfl (hb hby at_196) rfl rfl) ?_
              show own_Go p e below _ (T_76.setTop (mkF m 198 #[.val (.int p1), .val (.int p2), .val (.int p3), .val (.ref b_1), .val (.int nn), .val (.int ff), .val (.ref r_34), .val (.int (Int32.ofNat k)), .val (.ref r_73), .val (.ref r_77)] [(.ref r_77)]))
              refine own_via (fun _ => XS.ifnullNo X_76.here hx rfl (hb hby at_198) rfl) ?_
              show own_Go p e below _ (T_76.setTop (mkF m 201 #[.val (.int p1), .val (.int p2), .val (.int p3), .val (.ref b_1), .val (.int nn), .val (.int ff), .val (.ref r_34), .val (.int (Int32.ofNat k)), .val (.ref r_73), .val (.ref r_77)] []))
              refine own_via (fun _ => XS.aload X_76.here hx rfl (hb hby at_201) rfl rfl) ?_
              show own_Go p e below _ (T_76.setTop (mkF m 203 #[.val (.int p1), .val (.int p2), .val (.int p3), .val (.ref b_1), .val (.int nn), .val (.int ff), .val (.ref r_34), .val (.int (Int32.ofNat k)), .val (.ref r_73), .val (.ref r_77)] [(.ref r_77)]))
              refine own_via (fun _ => XS.aload X_76.here hx rfl (hb hby at_203) rfl rfl) ?_
              show own_Go p e below _ (T_76.setTop (mkF m 205 #[.val (.int p1), .val (.int p2), .val (.int p3), .val (.ref b_1), .val (.int nn), .val (.int ff), .val (.ref r_34), .val (.int (Int32.ofNat k)), .val (.ref r_73), .val (.ref r_77)] [(.ref r_73), (.ref r_77)]))
              have K_80 : Keep h0 T_76.heap [] := Keep.trans (ws := []) K_75 K_76q all0
              have K_81 : Keep T_72.heap T_76.heap [] := Keep.trans (ws := []) (Keep.refl T_72.heap []) K_76q all0
              obtain ⟨E_79a, C_79a, ⟨t_79a, k_79a, V_79a, K_79a⟩, p_79a, l_79a⟩ := q_76_1
              obtain ⟨E_79b, C_79b, ⟨t_79b, k_79b, V_79b, K_79b⟩, p_79b, l_79b⟩ := (q_72_2.keep0 K_81)
              obtain ⟨cq_82, kq_82, q_82a, q_82b, q_82c⟩ := isOf hZ_76 rfl E_79a
              obtain ⟨_, _, ⟨T_82, L_82, k_82, n_82⟩, -, X_82, ⟨Lc_82, hQ_82, l_82, y_82, z_82⟩, st_82⟩ := X_76.virtualBack hx (y := (⟨"java/lang/String", "equals", "(Ljava/lang/Object;)Z"⟩ : MethodName)) (z := (⟨"java/lang/String", "equals", "(Ljava/lang/Object;)Z"⟩ : MethodName)) ho_76 (mvT hZ_76 (own_w hw 69 rfl)) (mvT hZ_76 (own_w hw 70 rfl)) (notFace_of_selects (args := #[]) (mvT hZ_76 (own_w hw 72 rfl))) (mvT hZ_76 (own_w hw 72 rfl)) (mvT hZ_76 (own_w hw 71 rfl)) (by decide) (StrChars.Road.eqW (W := 0) hZ_76 (own_hwordsEq hw) (kI := 4) (own_w hw 9 rfl) E_79a V_79a C_79a K_79a (StrChars.Road.codOf rfl (fun c hc => (p_79a c hc).2)) (own_up p_79a) l_79a E_79b V_79b C_79b K_79b (StrChars.Road.codOf rfl (fun c hc => (p_79b c hc).2)) (own_up p_79b) l_79b (Scs.ext (O0.keep K_80 all0).2) hcs (by decide) (by decide)) q_82a q_82c (g := (mkF m 205 #[.val (.int p1), .val (.int p2), .val (.int p3), .val (.ref b_1), .val (.int nn), .val (.int ff), .val (.ref r_34), .val (.int (Int32.ofNat k)), .val (.ref r_73), .val (.ref r_77)] [(.ref r_73), (.ref r_77)])) rfl (by rw [hml]; rfl) (Steps.refl _) (argsL := [(.ref r_73)]) (rest := []) (lenOf pd_24 rfl) rfl (by show 2 * 0 + _ ≤ _; exact Nat.le_of_eq rfl) (hb hby at_205) (fun _ _ => ⟨rfl, rfl, (by decide : 15 + 0 ≤ _), (by decide : 76 + 0 ≤ _)⟩)
              dsimp only [Pt.U, Pt.locs, Pt.cells, Pt.slots] at X_82 l_82 y_82 z_82 st_82 hQ_82
              subst l_82 y_82 z_82
              obtain ⟨hv_82, rfl, e_82⟩ := hQ_82
              have N_82 := Fr.app N_76 (Fr.nil n0)
              rcases hv_82 with ⟨rfl, hq_82⟩ | ⟨rfl, hq_82⟩
              · refine own_via (fun _ k => st_82.trans k) ?_
                show own_Go p e below _ (T_82.setTop (mkF m 208 #[.val (.int p1), .val (.int p2), .val (.int p3), .val (.ref b_1), .val (.int nn), .val (.int ff), .val (.ref r_34), .val (.int (Int32.ofNat k)), .val (.ref r_73), .val (.ref r_77)] [(.int (1 : Int32))]))
                refine own_via (fun _ => XS.ifNo X_82.here hx rfl (hb hby at_208) rfl ((if0 _ _).trans (feq ((by decide) : ¬ ((1 : Int32) = (0 : Int32)))).1)) ?_
                show own_Go p e below _ (T_82.setTop (mkF m 211 #[.val (.int p1), .val (.int p2), .val (.int p3), .val (.ref b_1), .val (.int nn), .val (.int ff), .val (.ref r_34), .val (.int (Int32.ofNat k)), .val (.ref r_73), .val (.ref r_77)] []))
                refine own_via (fun _ => XS.iconst X_82.here hx rfl (hb hby at_211)) ?_
                show own_Go p e below _ (T_82.setTop (mkF m 212 #[.val (.int p1), .val (.int p2), .val (.int p3), .val (.ref b_1), .val (.int nn), .val (.int ff), .val (.ref r_34), .val (.int (Int32.ofNat k)), .val (.ref r_73), .val (.ref r_77)] [(.int (1 : Int32))]))
                refine own_via (fun _ => XS.goto X_82.here hx rfl (pc0 := 212) (pc' := 216) rfl (hb hby at_212) (by decide) (by decide)) ?_
                show own_Go p e below _ (T_82.setTop (mkF m 216 #[.val (.int p1), .val (.int p2), .val (.int p3), .val (.ref b_1), .val (.int nn), .val (.int ff), .val (.ref r_34), .val (.int (Int32.ofNat k)), .val (.ref r_73), .val (.ref r_77)] [(.int (1 : Int32))]))
                exact own_retvW X_82 hS_76 (by rw [e_82]; exact (Nat.le_refl _)) Bd.notSynchronized hx Bd.returns rfl (Or.inl ⟨rfl, (by simp), _, rfl⟩) (hb hby at_216) (by decide) (by decide) (by rw [e_82]; exact ⟨rfl, N_82, K_80⟩)
              · refine own_via (fun _ k => st_82.trans k) ?_
                show own_Go p e below _ (T_82.setTop (mkF m 208 #[.val (.int p1), .val (.int p2), .val (.int p3), .val (.ref b_1), .val (.int nn), .val (.int ff), .val (.ref r_34), .val (.int (Int32.ofNat k)), .val (.ref r_73), .val (.ref r_77)] [(.int (0 : Int32))]))
                exact absurd (own_some q_76_2 hk3 hat hlo hpc) hq_82
          by_cases hs0 : z0 = (0 : Int32)
          · refine own_via (fun _ => XS.ifYes X_55.here hx rfl (pc0 := 161) (pc' := 167) rfl (hb hby at_161) rfl ((if0 _ _).trans (teq (hs0 : z0 = (0 : Int32))).1) (by decide) (by decide)) ?_
            show own_Go p e below _ (T_55.setTop (mkF m 167 #[.val (.int p1), .val (.int p2), .val (.int p3), .val (.ref b_1), .val (.int nn), .val (.int ff), .val (.ref r_34), .val (.int e1), .unset, .unset] []))
            exact kj_56 _ _ e1 (by simp [hs0]) X_55 e_55 N_55
          · refine own_via (fun _ => XS.ifNo X_55.here hx rfl (hb hby at_161) rfl ((if0 _ _).trans (feq (hs0 : ¬ (z0 = (0 : Int32)))).1)) ?_
            show own_Go p e below _ (T_55.setTop (mkF m 164 #[.val (.int p1), .val (.int p2), .val (.int p3), .val (.ref b_1), .val (.int nn), .val (.int ff), .val (.ref r_34), .val (.int e1), .unset, .unset] []))
            refine own_via (fun _ => XS.iconst X_55.here hx rfl (hb hby at_164)) ?_
            show own_Go p e below _ (T_55.setTop (mkF m 165 #[.val (.int p1), .val (.int p2), .val (.int p3), .val (.ref b_1), .val (.int nn), .val (.int ff), .val (.ref r_34), .val (.int e1), .unset, .unset] [(.int (0 : Int32))]))
            refine own_via (fun _ => XS.istore X_55.here hx rfl (hb hby at_165) rfl (l' := #[.val (.int p1), .val (.int p2), .val (.int p3), .val (.ref b_1), .val (.int nn), .val (.int ff), .val (.ref r_34), .val (.int (0 : Int32)), .unset, .unset]) rfl) ?_
            show own_Go p e below _ (T_55.setTop (mkF m 167 #[.val (.int p1), .val (.int p2), .val (.int p3), .val (.ref b_1), .val (.int nn), .val (.int ff), .val (.ref r_34), .val (.int (0 : Int32)), .unset, .unset] []))
            exact kj_56 _ _ (0 : Int32) (by simp [hs0]) X_55 e_55 N_55
        by_cases hs1 : z1 = (0 : Int32)
        · refine own_via (fun _ => XS.ifYes X_49.here hx rfl (pc0 := 148) (pc' := 154) rfl (hb hby at_148) rfl ((if0 _ _).trans (teq (hs1 : z1 = (0 : Int32))).1) (by decide) (by decide)) ?_
          show own_Go p e below _ (T_49.setTop (mkF m 154 #[.val (.int p1), .val (.int p2), .val (.int p3), .val (.ref b_1), .val (.int nn), .val (.int ff), .val (.ref r_34), .val (.int e2), .unset, .unset] []))
          exact kj_50 _ _ e2 (by simp [hs1]) X_49 e_49 N_49
        · refine own_via (fun _ => XS.ifNo X_49.here hx rfl (hb hby at_148) rfl ((if0 _ _).trans (feq (hs1 : ¬ (z1 = (0 : Int32)))).1)) ?_
          show own_Go p e below _ (T_49.setTop (mkF m 151 #[.val (.int p1), .val (.int p2), .val (.int p3), .val (.ref b_1), .val (.int nn), .val (.int ff), .val (.ref r_34), .val (.int e2), .unset, .unset] []))
          refine own_via (fun _ => XS.iconst X_49.here hx rfl (hb hby at_151)) ?_
          show own_Go p e below _ (T_49.setTop (mkF m 152 #[.val (.int p1), .val (.int p2), .val (.int p3), .val (.ref b_1), .val (.int nn), .val (.int ff), .val (.ref r_34), .val (.int e2), .unset, .unset] [(.int (1 : Int32))]))
          refine own_via (fun _ => XS.istore X_49.here hx rfl (hb hby at_152) rfl (l' := #[.val (.int p1), .val (.int p2), .val (.int p3), .val (.ref b_1), .val (.int nn), .val (.int ff), .val (.ref r_34), .val (.int (1 : Int32)), .unset, .unset]) rfl) ?_
          show own_Go p e below _ (T_49.setTop (mkF m 154 #[.val (.int p1), .val (.int p2), .val (.int p3), .val (.ref b_1), .val (.int nn), .val (.int ff), .val (.ref r_34), .val (.int (1 : Int32)), .unset, .unset] []))
          exact kj_50 _ _ (1 : Int32) (by simp [hs1]) X_49 e_49 N_49
      by_cases hs2 : z2 = (0 : Int32)
      · refine own_via (fun _ => XS.ifYes X_43.here hx rfl (pc0 := 135) (pc' := 141) rfl (hb hby at_135) rfl ((if0 _ _).trans (teq (hs2 : z2 = (0 : Int32))).1) (by decide) (by decide)) ?_
        show own_Go p e below _ (T_43.setTop (mkF m 141 #[.val (.int p1), .val (.int p2), .val (.int p3), .val (.ref b_1), .val (.int nn), .val (.int ff), .val (.ref r_34), .val (.int e3), .unset, .unset] []))
        exact kj_44 _ _ e3 (by simp [hs2]) X_43 e_43 N_43
      · refine own_via (fun _ => XS.ifNo X_43.here hx rfl (hb hby at_135) rfl ((if0 _ _).trans (feq (hs2 : ¬ (z2 = (0 : Int32)))).1)) ?_
        show own_Go p e below _ (T_43.setTop (mkF m 138 #[.val (.int p1), .val (.int p2), .val (.int p3), .val (.ref b_1), .val (.int nn), .val (.int ff), .val (.ref r_34), .val (.int e3), .unset, .unset] []))
        refine own_via (fun _ => XS.iconst X_43.here hx rfl (hb hby at_138)) ?_
        show own_Go p e below _ (T_43.setTop (mkF m 139 #[.val (.int p1), .val (.int p2), .val (.int p3), .val (.ref b_1), .val (.int nn), .val (.int ff), .val (.ref r_34), .val (.int e3), .unset, .unset] [(.int (2 : Int32))]))
        refine own_via (fun _ => XS.istore X_43.here hx rfl (hb hby at_139) rfl (l' := #[.val (.int p1), .val (.int p2), .val (.int p3), .val (.ref b_1), .val (.int nn), .val (.int ff), .val (.ref r_34), .val (.int (2 : Int32)), .unset, .unset]) rfl) ?_
        show own_Go p e below _ (T_43.setTop (mkF m 141 #[.val (.int p1), .val (.int p2), .val (.int p3), .val (.ref b_1), .val (.int nn), .val (.int ff), .val (.ref r_34), .val (.int (2 : Int32)), .unset, .unset] []))
        exact kj_44 _ _ (2 : Int32) (by simp [hs2]) X_43 e_43 N_43
    by_cases hs3 : z3 = (0 : Int32)
    · refine own_via (fun _ => XS.ifYes X_37.here hx rfl (pc0 := 122) (pc' := 128) rfl (hb hby at_122) rfl ((if0 _ _).trans (teq (hs3 : z3 = (0 : Int32))).1) (by decide) (by decide)) ?_
      show own_Go p e below _ (T_37.setTop (mkF m 128 #[.val (.int p1), .val (.int p2), .val (.int p3), .val (.ref b_1), .val (.int nn), .val (.int ff), .val (.ref r_34), .val (.int (-1 : Int32)), .unset, .unset] []))
      exact kj_38 _ _ (-1 : Int32) (by simp [hs3]) X_37 e_37 N_37
    · refine own_via (fun _ => XS.ifNo X_37.here hx rfl (hb hby at_122) rfl ((if0 _ _).trans (feq (hs3 : ¬ (z3 = (0 : Int32)))).1)) ?_
      show own_Go p e below _ (T_37.setTop (mkF m 125 #[.val (.int p1), .val (.int p2), .val (.int p3), .val (.ref b_1), .val (.int nn), .val (.int ff), .val (.ref r_34), .val (.int (-1 : Int32)), .unset, .unset] []))
      refine own_via (fun _ => XS.iconst X_37.here hx rfl (hb hby at_125)) ?_
      show own_Go p e below _ (T_37.setTop (mkF m 126 #[.val (.int p1), .val (.int p2), .val (.int p3), .val (.ref b_1), .val (.int nn), .val (.int ff), .val (.ref r_34), .val (.int (-1 : Int32)), .unset, .unset] [(.int (3 : Int32))]))
      refine own_via (fun _ => XS.istore X_37.here hx rfl (hb hby at_126) rfl (l' := #[.val (.int p1), .val (.int p2), .val (.int p3), .val (.ref b_1), .val (.int nn), .val (.int ff), .val (.ref r_34), .val (.int (3 : Int32)), .unset, .unset]) rfl) ?_
      show own_Go p e below _ (T_37.setTop (mkF m 128 #[.val (.int p1), .val (.int p2), .val (.int p3), .val (.ref b_1), .val (.int nn), .val (.int ff), .val (.ref r_34), .val (.int (3 : Int32)), .unset, .unset] []))
      exact kj_38 _ _ (3 : Int32) (by simp [hs3]) X_37 e_37 N_37
  by_cases hlt4 : (((p3.toUInt32 >>> ((3 : Int32) &&& 31).toUInt32).toInt32) &&& (7 : Int32)) < (4 : Int32)
  · refine own_via (fun _ => XS.icmpNo X_24.here hx rfl (hb hby at_79) rfl (tlt (hlt4 : (((p3.toUInt32 >>> ((3 : Int32) &&& 31).toUInt32).toInt32) &&& (7 : Int32)) < (4 : Int32))).2.1) ?_
    show own_Go p e below _ (T_24.setTop (mkF m 82 #[.val (.int p1), .val (.int p2), .val (.int p3), .val (.ref b_1), .val (.int ((p3 &&& (7 : Int32)) % (7 : Int32))), .val (.int (((p3.toUInt32 >>> ((3 : Int32) &&& 31).toUInt32).toInt32) &&& (7 : Int32))), .unset, .unset, .unset, .unset] []))
    rcases own_f4 hlt4 with hf4 | hf4 | hf4 | hf4
    · rw [hf4]
      show own_Go p e below _ (T_24.setTop (mkF m 82 #[.val (.int p1), .val (.int p2), .val (.int p3), .val (.ref b_1), .val (.int ((p3 &&& (7 : Int32)) % (7 : Int32))), .val (.int (0 : Int32)), .unset, .unset, .unset, .unset] []))
      refine own_via (fun _ => XS.aloadN X_24.here hx rfl (hb hby at_82) rfl rfl) ?_
      show own_Go p e below _ (T_24.setTop (mkF m 83 #[.val (.int p1), .val (.int p2), .val (.int p3), .val (.ref b_1), .val (.int ((p3 &&& (7 : Int32)) % (7 : Int32))), .val (.int (0 : Int32)), .unset, .unset, .unset, .unset] [(.ref b_1)]))
      refine own_via (fun _ => XS.iload X_24.here hx rfl (hb hby at_83) rfl) ?_
      show own_Go p e below _ (T_24.setTop (mkF m 85 #[.val (.int p1), .val (.int p2), .val (.int p3), .val (.ref b_1), .val (.int ((p3 &&& (7 : Int32)) % (7 : Int32))), .val (.int (0 : Int32)), .unset, .unset, .unset, .unset] [(.int (0 : Int32)), (.ref b_1)]))
      refine own_via (fun _ => XS.bipush X_24.here hx rfl (hb hby at_85)) ?_
      show own_Go p e below _ (T_24.setTop (mkF m 87 #[.val (.int p1), .val (.int p2), .val (.int p3), .val (.ref b_1), .val (.int ((p3 &&& (7 : Int32)) % (7 : Int32))), .val (.int (0 : Int32)), .unset, .unset, .unset, .unset] [(.int (64 : Int32)), (.int (0 : Int32)), (.ref b_1)]))
      obtain ⟨cl_83, Ar_83, q_83, S_83, M_83, H_83, G_83⟩ := (id V_25)
      obtain ⟨T_83, h_83, X_83, e_83, W_83, st_83⟩ := stC X_24 hx hZ e_24 Ar_83 (j := (0 : Int32)) (inb_of S_83 ⟨by decide, by decide⟩) (g := (mkF m 87 #[.val (.int p1), .val (.int p2), .val (.int p3), .val (.ref b_1), .val (.int ((p3 &&& (7 : Int32)) % (7 : Int32))), .val (.int (0 : Int32)), .unset, .unset, .unset, .unset] [(.int (64 : Int32)), (.int (0 : Int32)), (.ref b_1)])) rfl rfl (hb hby at_87)
      have V_83 : Arv Z h_83 b_1 k_1 .char (6 : Int32) [(.int (64 : Int32)), (.int d1), (.int d2), (.int d3), (.int d4), (.int d5)] (.int (0 : Int32)) := Arv.set Ar_83 q_83 S_83 M_83 H_83 G_83 (fits_nar_char _) W_83 0 rfl (Nat.le_of_ble_eq_true rfl)
      have N_83 := Fr.snoc X_83 N_24 (Nat.le_trans Z0 (Nat.le_of_eq g_1.symm))
      refine own_via st_83 ?_
      show own_Go p e below _ (T_83.setTop (mkF m 88 #[.val (.int p1), .val (.int p2), .val (.int p3), .val (.ref b_1), .val (.int ((p3 &&& (7 : Int32)) % (7 : Int32))), .val (.int (0 : Int32)), .unset, .unset, .unset, .unset] []))
      refine own_via (fun _ => XS.aloadN X_83.here hx rfl (hb hby at_88) rfl rfl) ?_
      show own_Go p e below _ (T_83.setTop (mkF m 89 #[.val (.int p1), .val (.int p2), .val (.int p3), .val (.ref b_1), .val (.int ((p3 &&& (7 : Int32)) % (7 : Int32))), .val (.int (0 : Int32)), .unset, .unset, .unset, .unset] [(.ref b_1)]))
      refine own_via (fun _ => XS.iload X_83.here hx rfl (hb hby at_89) rfl) ?_
      show own_Go p e below _ (T_83.setTop (mkF m 91 #[.val (.int p1), .val (.int p2), .val (.int p3), .val (.ref b_1), .val (.int ((p3 &&& (7 : Int32)) % (7 : Int32))), .val (.int (0 : Int32)), .unset, .unset, .unset, .unset] [(.int (0 : Int32)), (.ref b_1)]))
      refine own_via (fun _ => XS.iconst X_83.here hx rfl (hb hby at_91)) ?_
      show own_Go p e below _ (T_83.setTop (mkF m 92 #[.val (.int p1), .val (.int p2), .val (.int p3), .val (.ref b_1), .val (.int ((p3 &&& (7 : Int32)) % (7 : Int32))), .val (.int (0 : Int32)), .unset, .unset, .unset, .unset] [(.int (1 : Int32)), (.int (0 : Int32)), (.ref b_1)]))
      refine own_via (fun _ => XS.iadd X_83.here hx rfl (hb hby at_92) rfl) ?_
      show own_Go p e below _ (T_83.setTop (mkF m 93 #[.val (.int p1), .val (.int p2), .val (.int p3), .val (.ref b_1), .val (.int ((p3 &&& (7 : Int32)) % (7 : Int32))), .val (.int (0 : Int32)), .unset, .unset, .unset, .unset] [(.int (1 : Int32)), (.ref b_1)]))
      refine own_via (fun _ => XS.bipush X_83.here hx rfl (hb hby at_93)) ?_
      show own_Go p e below _ (T_83.setTop (mkF m 95 #[.val (.int p1), .val (.int p2), .val (.int p3), .val (.ref b_1), .val (.int ((p3 &&& (7 : Int32)) % (7 : Int32))), .val (.int (0 : Int32)), .unset, .unset, .unset, .unset] [(.int (45 : Int32)), (.int (1 : Int32)), (.ref b_1)]))
      obtain ⟨cl_84, Ar_84, q_84, S_84, M_84, H_84, G_84⟩ := (id V_83)
      obtain ⟨T_84, h_84, X_84, e_84, W_84, st_84⟩ := stC X_83 hx hZ e_83 Ar_84 (j := (1 : Int32)) (inb_of S_84 ⟨by decide, by decide⟩) (g := (mkF m 95 #[.val (.int p1), .val (.int p2), .val (.int p3), .val (.ref b_1), .val (.int ((p3 &&& (7 : Int32)) % (7 : Int32))), .val (.int (0 : Int32)), .unset, .unset, .unset, .unset] [(.int (45 : Int32)), (.int (1 : Int32)), (.ref b_1)])) rfl rfl (hb hby at_95)
      have V_84 : Arv Z h_84 b_1 k_1 .char (6 : Int32) [(.int (64 : Int32)), (.int (45 : Int32)), (.int d2), (.int d3), (.int d4), (.int d5)] (.int (0 : Int32)) := Arv.set Ar_84 q_84 S_84 M_84 H_84 G_84 (fits_nar_char _) W_84 1 rfl (Nat.le_of_ble_eq_true rfl)
      have N_84 := Fr.snoc X_84 N_83 (Nat.le_trans Z0 (Nat.le_of_eq g_1.symm))
      refine own_via st_84 ?_
      show own_Go p e below _ (T_84.setTop (mkF m 96 #[.val (.int p1), .val (.int p2), .val (.int p3), .val (.ref b_1), .val (.int ((p3 &&& (7 : Int32)) % (7 : Int32))), .val (.int (0 : Int32)), .unset, .unset, .unset, .unset] []))
      refine own_via (fun _ => XS.aloadN X_84.here hx rfl (hb hby at_96) rfl rfl) ?_
      show own_Go p e below _ (T_84.setTop (mkF m 97 #[.val (.int p1), .val (.int p2), .val (.int p3), .val (.ref b_1), .val (.int ((p3 &&& (7 : Int32)) % (7 : Int32))), .val (.int (0 : Int32)), .unset, .unset, .unset, .unset] [(.ref b_1)]))
      refine own_via (fun _ => XS.iload X_84.here hx rfl (hb hby at_97) rfl) ?_
      show own_Go p e below _ (T_84.setTop (mkF m 99 #[.val (.int p1), .val (.int p2), .val (.int p3), .val (.ref b_1), .val (.int ((p3 &&& (7 : Int32)) % (7 : Int32))), .val (.int (0 : Int32)), .unset, .unset, .unset, .unset] [(.int (0 : Int32)), (.ref b_1)]))
      refine own_via (fun _ => XS.iconst X_84.here hx rfl (hb hby at_99)) ?_
      show own_Go p e below _ (T_84.setTop (mkF m 100 #[.val (.int p1), .val (.int p2), .val (.int p3), .val (.ref b_1), .val (.int ((p3 &&& (7 : Int32)) % (7 : Int32))), .val (.int (0 : Int32)), .unset, .unset, .unset, .unset] [(.int (2 : Int32)), (.int (0 : Int32)), (.ref b_1)]))
      refine own_via (fun _ => XS.iadd X_84.here hx rfl (hb hby at_100) rfl) ?_
      show own_Go p e below _ (T_84.setTop (mkF m 101 #[.val (.int p1), .val (.int p2), .val (.int p3), .val (.ref b_1), .val (.int ((p3 &&& (7 : Int32)) % (7 : Int32))), .val (.int (0 : Int32)), .unset, .unset, .unset, .unset] [(.int (2 : Int32)), (.ref b_1)]))
      refine own_via (fun _ => XS.bipush X_84.here hx rfl (hb hby at_101)) ?_
      show own_Go p e below _ (T_84.setTop (mkF m 103 #[.val (.int p1), .val (.int p2), .val (.int p3), .val (.ref b_1), .val (.int ((p3 &&& (7 : Int32)) % (7 : Int32))), .val (.int (0 : Int32)), .unset, .unset, .unset, .unset] [(.int (64 : Int32)), (.int (2 : Int32)), (.ref b_1)]))
      obtain ⟨cl_85, Ar_85, q_85, S_85, M_85, H_85, G_85⟩ := (id V_84)
      obtain ⟨T_85, h_85, X_85, e_85, W_85, st_85⟩ := stC X_84 hx hZ e_84 Ar_85 (j := (2 : Int32)) (inb_of S_85 ⟨by decide, by decide⟩) (g := (mkF m 103 #[.val (.int p1), .val (.int p2), .val (.int p3), .val (.ref b_1), .val (.int ((p3 &&& (7 : Int32)) % (7 : Int32))), .val (.int (0 : Int32)), .unset, .unset, .unset, .unset] [(.int (64 : Int32)), (.int (2 : Int32)), (.ref b_1)])) rfl rfl (hb hby at_103)
      have V_85 : Arv Z h_85 b_1 k_1 .char (6 : Int32) [(.int (64 : Int32)), (.int (45 : Int32)), (.int (64 : Int32)), (.int d3), (.int d4), (.int d5)] (.int (0 : Int32)) := Arv.set Ar_85 q_85 S_85 M_85 H_85 G_85 (fits_nar_char _) W_85 2 rfl (Nat.le_of_ble_eq_true rfl)
      have N_85 := Fr.snoc X_85 N_84 (Nat.le_trans Z0 (Nat.le_of_eq g_1.symm))
      refine own_via st_85 ?_
      show own_Go p e below _ (T_85.setTop (mkF m 104 #[.val (.int p1), .val (.int p2), .val (.int p3), .val (.ref b_1), .val (.int ((p3 &&& (7 : Int32)) % (7 : Int32))), .val (.int (0 : Int32)), .unset, .unset, .unset, .unset] []))
      have K_86 : Keep h_24 h_83 [b_1] := Keep.wr (ws := [b_1]) (own_keep_mono (Keep.refl h_24 []) (by simp)) W_83 (Or.inl (List.mem_of_getElem? (i := 0) rfl))
      have K_87 : Keep h_24 h_84 [b_1] := Keep.wr (ws := [b_1]) K_86 W_84 (Or.inl (List.mem_of_getElem? (i := 0) rfl))
      have K_88 : Keep h_24 h_85 [b_1] := Keep.wr (ws := [b_1]) K_87 W_85 (Or.inl (List.mem_of_getElem? (i := 0) rfl))
      exact kj_26 _ _ (64 : Int32) (by decide) (45 : Int32) (by decide) (64 : Int32) (by decide) d3 q_15_0 d4 q_19_0 d5 q_23_0 (0 : Int32) X_85 _ e_85 K_88 V_85 N_85
    · rw [hf4]
      show own_Go p e below _ (T_24.setTop (mkF m 82 #[.val (.int p1), .val (.int p2), .val (.int p3), .val (.ref b_1), .val (.int ((p3 &&& (7 : Int32)) % (7 : Int32))), .val (.int (1 : Int32)), .unset, .unset, .unset, .unset] []))
      refine own_via (fun _ => XS.aloadN X_24.here hx rfl (hb hby at_82) rfl rfl) ?_
      show own_Go p e below _ (T_24.setTop (mkF m 83 #[.val (.int p1), .val (.int p2), .val (.int p3), .val (.ref b_1), .val (.int ((p3 &&& (7 : Int32)) % (7 : Int32))), .val (.int (1 : Int32)), .unset, .unset, .unset, .unset] [(.ref b_1)]))
      refine own_via (fun _ => XS.iload X_24.here hx rfl (hb hby at_83) rfl) ?_
      show own_Go p e below _ (T_24.setTop (mkF m 85 #[.val (.int p1), .val (.int p2), .val (.int p3), .val (.ref b_1), .val (.int ((p3 &&& (7 : Int32)) % (7 : Int32))), .val (.int (1 : Int32)), .unset, .unset, .unset, .unset] [(.int (1 : Int32)), (.ref b_1)]))
      refine own_via (fun _ => XS.bipush X_24.here hx rfl (hb hby at_85)) ?_
      show own_Go p e below _ (T_24.setTop (mkF m 87 #[.val (.int p1), .val (.int p2), .val (.int p3), .val (.ref b_1), .val (.int ((p3 &&& (7 : Int32)) % (7 : Int32))), .val (.int (1 : Int32)), .unset, .unset, .unset, .unset] [(.int (64 : Int32)), (.int (1 : Int32)), (.ref b_1)]))
      obtain ⟨cl_89, Ar_89, q_89, S_89, M_89, H_89, G_89⟩ := (id V_25)
      obtain ⟨T_89, h_89, X_89, e_89, W_89, st_89⟩ := stC X_24 hx hZ e_24 Ar_89 (j := (1 : Int32)) (inb_of S_89 ⟨by decide, by decide⟩) (g := (mkF m 87 #[.val (.int p1), .val (.int p2), .val (.int p3), .val (.ref b_1), .val (.int ((p3 &&& (7 : Int32)) % (7 : Int32))), .val (.int (1 : Int32)), .unset, .unset, .unset, .unset] [(.int (64 : Int32)), (.int (1 : Int32)), (.ref b_1)])) rfl rfl (hb hby at_87)
      have V_89 : Arv Z h_89 b_1 k_1 .char (6 : Int32) [(.int d0), (.int (64 : Int32)), (.int d2), (.int d3), (.int d4), (.int d5)] (.int (0 : Int32)) := Arv.set Ar_89 q_89 S_89 M_89 H_89 G_89 (fits_nar_char _) W_89 1 rfl (Nat.le_of_ble_eq_true rfl)
      have N_89 := Fr.snoc X_89 N_24 (Nat.le_trans Z0 (Nat.le_of_eq g_1.symm))
      refine own_via st_89 ?_
      show own_Go p e below _ (T_89.setTop (mkF m 88 #[.val (.int p1), .val (.int p2), .val (.int p3), .val (.ref b_1), .val (.int ((p3 &&& (7 : Int32)) % (7 : Int32))), .val (.int (1 : Int32)), .unset, .unset, .unset, .unset] []))
      refine own_via (fun _ => XS.aloadN X_89.here hx rfl (hb hby at_88) rfl rfl) ?_
      show own_Go p e below _ (T_89.setTop (mkF m 89 #[.val (.int p1), .val (.int p2), .val (.int p3), .val (.ref b_1), .val (.int ((p3 &&& (7 : Int32)) % (7 : Int32))), .val (.int (1 : Int32)), .unset, .unset, .unset, .unset] [(.ref b_1)]))
      refine own_via (fun _ => XS.iload X_89.here hx rfl (hb hby at_89) rfl) ?_
      show own_Go p e below _ (T_89.setTop (mkF m 91 #[.val (.int p1), .val (.int p2), .val (.int p3), .val (.ref b_1), .val (.int ((p3 &&& (7 : Int32)) % (7 : Int32))), .val (.int (1 : Int32)), .unset, .unset, .unset, .unset] [(.int (1 : Int32)), (.ref b_1)]))
      refine own_via (fun _ => XS.iconst X_89.here hx rfl (hb hby at_91)) ?_
      show own_Go p e below _ (T_89.setTop (mkF m 92 #[.val (.int p1), .val (.int p2), .val (.int p3), .val (.ref b_1), .val (.int ((p3 &&& (7 : Int32)) % (7 : Int32))), .val (.int (1 : Int32)), .unset, .unset, .unset, .unset] [(.int (1 : Int32)), (.int (1 : Int32)), (.ref b_1)]))
      refine own_via (fun _ => XS.iadd X_89.here hx rfl (hb hby at_92) rfl) ?_
      show own_Go p e below _ (T_89.setTop (mkF m 93 #[.val (.int p1), .val (.int p2), .val (.int p3), .val (.ref b_1), .val (.int ((p3 &&& (7 : Int32)) % (7 : Int32))), .val (.int (1 : Int32)), .unset, .unset, .unset, .unset] [(.int (2 : Int32)), (.ref b_1)]))
      refine own_via (fun _ => XS.bipush X_89.here hx rfl (hb hby at_93)) ?_
      show own_Go p e below _ (T_89.setTop (mkF m 95 #[.val (.int p1), .val (.int p2), .val (.int p3), .val (.ref b_1), .val (.int ((p3 &&& (7 : Int32)) % (7 : Int32))), .val (.int (1 : Int32)), .unset, .unset, .unset, .unset] [(.int (45 : Int32)), (.int (2 : Int32)), (.ref b_1)]))
      obtain ⟨cl_90, Ar_90, q_90, S_90, M_90, H_90, G_90⟩ := (id V_89)
      obtain ⟨T_90, h_90, X_90, e_90, W_90, st_90⟩ := stC X_89 hx hZ e_89 Ar_90 (j := (2 : Int32)) (inb_of S_90 ⟨by decide, by decide⟩) (g := (mkF m 95 #[.val (.int p1), .val (.int p2), .val (.int p3), .val (.ref b_1), .val (.int ((p3 &&& (7 : Int32)) % (7 : Int32))), .val (.int (1 : Int32)), .unset, .unset, .unset, .unset] [(.int (45 : Int32)), (.int (2 : Int32)), (.ref b_1)])) rfl rfl (hb hby at_95)
      have V_90 : Arv Z h_90 b_1 k_1 .char (6 : Int32) [(.int d0), (.int (64 : Int32)), (.int (45 : Int32)), (.int d3), (.int d4), (.int d5)] (.int (0 : Int32)) := Arv.set Ar_90 q_90 S_90 M_90 H_90 G_90 (fits_nar_char _) W_90 2 rfl (Nat.le_of_ble_eq_true rfl)
      have N_90 := Fr.snoc X_90 N_89 (Nat.le_trans Z0 (Nat.le_of_eq g_1.symm))
      refine own_via st_90 ?_
      show own_Go p e below _ (T_90.setTop (mkF m 96 #[.val (.int p1), .val (.int p2), .val (.int p3), .val (.ref b_1), .val (.int ((p3 &&& (7 : Int32)) % (7 : Int32))), .val (.int (1 : Int32)), .unset, .unset, .unset, .unset] []))
      refine own_via (fun _ => XS.aloadN X_90.here hx rfl (hb hby at_96) rfl rfl) ?_
      show own_Go p e below _ (T_90.setTop (mkF m 97 #[.val (.int p1), .val (.int p2), .val (.int p3), .val (.ref b_1), .val (.int ((p3 &&& (7 : Int32)) % (7 : Int32))), .val (.int (1 : Int32)), .unset, .unset, .unset, .unset] [(.ref b_1)]))
      refine own_via (fun _ => XS.iload X_90.here hx rfl (hb hby at_97) rfl) ?_
      show own_Go p e below _ (T_90.setTop (mkF m 99 #[.val (.int p1), .val (.int p2), .val (.int p3), .val (.ref b_1), .val (.int ((p3 &&& (7 : Int32)) % (7 : Int32))), .val (.int (1 : Int32)), .unset, .unset, .unset, .unset] [(.int (1 : Int32)), (.ref b_1)]))
      refine own_via (fun _ => XS.iconst X_90.here hx rfl (hb hby at_99)) ?_
      show own_Go p e below _ (T_90.setTop (mkF m 100 #[.val (.int p1), .val (.int p2), .val (.int p3), .val (.ref b_1), .val (.int ((p3 &&& (7 : Int32)) % (7 : Int32))), .val (.int (1 : Int32)), .unset, .unset, .unset, .unset] [(.int (2 : Int32)), (.int (1 : Int32)), (.ref b_1)]))
      refine own_via (fun _ => XS.iadd X_90.here hx rfl (hb hby at_100) rfl) ?_
      show own_Go p e below _ (T_90.setTop (mkF m 101 #[.val (.int p1), .val (.int p2), .val (.int p3), .val (.ref b_1), .val (.int ((p3 &&& (7 : Int32)) % (7 : Int32))), .val (.int (1 : Int32)), .unset, .unset, .unset, .unset] [(.int (3 : Int32)), (.ref b_1)]))
      refine own_via (fun _ => XS.bipush X_90.here hx rfl (hb hby at_101)) ?_
      show own_Go p e below _ (T_90.setTop (mkF m 103 #[.val (.int p1), .val (.int p2), .val (.int p3), .val (.ref b_1), .val (.int ((p3 &&& (7 : Int32)) % (7 : Int32))), .val (.int (1 : Int32)), .unset, .unset, .unset, .unset] [(.int (64 : Int32)), (.int (3 : Int32)), (.ref b_1)]))
      obtain ⟨cl_91, Ar_91, q_91, S_91, M_91, H_91, G_91⟩ := (id V_90)
      obtain ⟨T_91, h_91, X_91, e_91, W_91, st_91⟩ := stC X_90 hx hZ e_90 Ar_91 (j := (3 : Int32)) (inb_of S_91 ⟨by decide, by decide⟩) (g := (mkF m 103 #[.val (.int p1), .val (.int p2), .val (.int p3), .val (.ref b_1), .val (.int ((p3 &&& (7 : Int32)) % (7 : Int32))), .val (.int (1 : Int32)), .unset, .unset, .unset, .unset] [(.int (64 : Int32)), (.int (3 : Int32)), (.ref b_1)])) rfl rfl (hb hby at_103)
      have V_91 : Arv Z h_91 b_1 k_1 .char (6 : Int32) [(.int d0), (.int (64 : Int32)), (.int (45 : Int32)), (.int (64 : Int32)), (.int d4), (.int d5)] (.int (0 : Int32)) := Arv.set Ar_91 q_91 S_91 M_91 H_91 G_91 (fits_nar_char _) W_91 3 rfl (Nat.le_of_ble_eq_true rfl)
      have N_91 := Fr.snoc X_91 N_90 (Nat.le_trans Z0 (Nat.le_of_eq g_1.symm))
      refine own_via st_91 ?_
      show own_Go p e below _ (T_91.setTop (mkF m 104 #[.val (.int p1), .val (.int p2), .val (.int p3), .val (.ref b_1), .val (.int ((p3 &&& (7 : Int32)) % (7 : Int32))), .val (.int (1 : Int32)), .unset, .unset, .unset, .unset] []))
      have K_92 : Keep h_24 h_89 [b_1] := Keep.wr (ws := [b_1]) (own_keep_mono (Keep.refl h_24 []) (by simp)) W_89 (Or.inl (List.mem_of_getElem? (i := 0) rfl))
      have K_93 : Keep h_24 h_90 [b_1] := Keep.wr (ws := [b_1]) K_92 W_90 (Or.inl (List.mem_of_getElem? (i := 0) rfl))
      have K_94 : Keep h_24 h_91 [b_1] := Keep.wr (ws := [b_1]) K_93 W_91 (Or.inl (List.mem_of_getElem? (i := 0) rfl))
      exact kj_26 _ _ d0 q_3_0 (64 : Int32) (by decide) (45 : Int32) (by decide) (64 : Int32) (by decide) d4 q_19_0 d5 q_23_0 (1 : Int32) X_91 _ e_91 K_94 V_91 N_91
    · rw [hf4]
      show own_Go p e below _ (T_24.setTop (mkF m 82 #[.val (.int p1), .val (.int p2), .val (.int p3), .val (.ref b_1), .val (.int ((p3 &&& (7 : Int32)) % (7 : Int32))), .val (.int (2 : Int32)), .unset, .unset, .unset, .unset] []))
      refine own_via (fun _ => XS.aloadN X_24.here hx rfl (hb hby at_82) rfl rfl) ?_
      show own_Go p e below _ (T_24.setTop (mkF m 83 #[.val (.int p1), .val (.int p2), .val (.int p3), .val (.ref b_1), .val (.int ((p3 &&& (7 : Int32)) % (7 : Int32))), .val (.int (2 : Int32)), .unset, .unset, .unset, .unset] [(.ref b_1)]))
      refine own_via (fun _ => XS.iload X_24.here hx rfl (hb hby at_83) rfl) ?_
      show own_Go p e below _ (T_24.setTop (mkF m 85 #[.val (.int p1), .val (.int p2), .val (.int p3), .val (.ref b_1), .val (.int ((p3 &&& (7 : Int32)) % (7 : Int32))), .val (.int (2 : Int32)), .unset, .unset, .unset, .unset] [(.int (2 : Int32)), (.ref b_1)]))
      refine own_via (fun _ => XS.bipush X_24.here hx rfl (hb hby at_85)) ?_
      show own_Go p e below _ (T_24.setTop (mkF m 87 #[.val (.int p1), .val (.int p2), .val (.int p3), .val (.ref b_1), .val (.int ((p3 &&& (7 : Int32)) % (7 : Int32))), .val (.int (2 : Int32)), .unset, .unset, .unset, .unset] [(.int (64 : Int32)), (.int (2 : Int32)), (.ref b_1)]))
      obtain ⟨cl_95, Ar_95, q_95, S_95, M_95, H_95, G_95⟩ := (id V_25)
      obtain ⟨T_95, h_95, X_95, e_95, W_95, st_95⟩ := stC X_24 hx hZ e_24 Ar_95 (j := (2 : Int32)) (inb_of S_95 ⟨by decide, by decide⟩) (g := (mkF m 87 #[.val (.int p1), .val (.int p2), .val (.int p3), .val (.ref b_1), .val (.int ((p3 &&& (7 : Int32)) % (7 : Int32))), .val (.int (2 : Int32)), .unset, .unset, .unset, .unset] [(.int (64 : Int32)), (.int (2 : Int32)), (.ref b_1)])) rfl rfl (hb hby at_87)
      have V_95 : Arv Z h_95 b_1 k_1 .char (6 : Int32) [(.int d0), (.int d1), (.int (64 : Int32)), (.int d3), (.int d4), (.int d5)] (.int (0 : Int32)) := Arv.set Ar_95 q_95 S_95 M_95 H_95 G_95 (fits_nar_char _) W_95 2 rfl (Nat.le_of_ble_eq_true rfl)
      have N_95 := Fr.snoc X_95 N_24 (Nat.le_trans Z0 (Nat.le_of_eq g_1.symm))
      refine own_via st_95 ?_
      show own_Go p e below _ (T_95.setTop (mkF m 88 #[.val (.int p1), .val (.int p2), .val (.int p3), .val (.ref b_1), .val (.int ((p3 &&& (7 : Int32)) % (7 : Int32))), .val (.int (2 : Int32)), .unset, .unset, .unset, .unset] []))
      refine own_via (fun _ => XS.aloadN X_95.here hx rfl (hb hby at_88) rfl rfl) ?_
      show own_Go p e below _ (T_95.setTop (mkF m 89 #[.val (.int p1), .val (.int p2), .val (.int p3), .val (.ref b_1), .val (.int ((p3 &&& (7 : Int32)) % (7 : Int32))), .val (.int (2 : Int32)), .unset, .unset, .unset, .unset] [(.ref b_1)]))
      refine own_via (fun _ => XS.iload X_95.here hx rfl (hb hby at_89) rfl) ?_
      show own_Go p e below _ (T_95.setTop (mkF m 91 #[.val (.int p1), .val (.int p2), .val (.int p3), .val (.ref b_1), .val (.int ((p3 &&& (7 : Int32)) % (7 : Int32))), .val (.int (2 : Int32)), .unset, .unset, .unset, .unset] [(.int (2 : Int32)), (.ref b_1)]))
      refine own_via (fun _ => XS.iconst X_95.here hx rfl (hb hby at_91)) ?_
      show own_Go p e below _ (T_95.setTop (mkF m 92 #[.val (.int p1), .val (.int p2), .val (.int p3), .val (.ref b_1), .val (.int ((p3 &&& (7 : Int32)) % (7 : Int32))), .val (.int (2 : Int32)), .unset, .unset, .unset, .unset] [(.int (1 : Int32)), (.int (2 : Int32)), (.ref b_1)]))
      refine own_via (fun _ => XS.iadd X_95.here hx rfl (hb hby at_92) rfl) ?_
      show own_Go p e below _ (T_95.setTop (mkF m 93 #[.val (.int p1), .val (.int p2), .val (.int p3), .val (.ref b_1), .val (.int ((p3 &&& (7 : Int32)) % (7 : Int32))), .val (.int (2 : Int32)), .unset, .unset, .unset, .unset] [(.int (3 : Int32)), (.ref b_1)]))
      refine own_via (fun _ => XS.bipush X_95.here hx rfl (hb hby at_93)) ?_
      show own_Go p e below _ (T_95.setTop (mkF m 95 #[.val (.int p1), .val (.int p2), .val (.int p3), .val (.ref b_1), .val (.int ((p3 &&& (7 : Int32)) % (7 : Int32))), .val (.int (2 : Int32)), .unset, .unset, .unset, .unset] [(.int (45 : Int32)), (.int (3 : Int32)), (.ref b_1)]))
      obtain ⟨cl_96, Ar_96, q_96, S_96, M_96, H_96, G_96⟩ := (id V_95)
      obtain ⟨T_96, h_96, X_96, e_96, W_96, st_96⟩ := stC X_95 hx hZ e_95 Ar_96 (j := (3 : Int32)) (inb_of S_96 ⟨by decide, by decide⟩) (g := (mkF m 95 #[.val (.int p1), .val (.int p2), .val (.int p3), .val (.ref b_1), .val (.int ((p3 &&& (7 : Int32)) % (7 : Int32))), .val (.int (2 : Int32)), .unset, .unset, .unset, .unset] [(.int (45 : Int32)), (.int (3 : Int32)), (.ref b_1)])) rfl rfl (hb hby at_95)
      have V_96 : Arv Z h_96 b_1 k_1 .char (6 : Int32) [(.int d0), (.int d1), (.int (64 : Int32)), (.int (45 : Int32)), (.int d4), (.int d5)] (.int (0 : Int32)) := Arv.set Ar_96 q_96 S_96 M_96 H_96 G_96 (fits_nar_char _) W_96 3 rfl (Nat.le_of_ble_eq_true rfl)
      have N_96 := Fr.snoc X_96 N_95 (Nat.le_trans Z0 (Nat.le_of_eq g_1.symm))
      refine own_via st_96 ?_
      show own_Go p e below _ (T_96.setTop (mkF m 96 #[.val (.int p1), .val (.int p2), .val (.int p3), .val (.ref b_1), .val (.int ((p3 &&& (7 : Int32)) % (7 : Int32))), .val (.int (2 : Int32)), .unset, .unset, .unset, .unset] []))
      refine own_via (fun _ => XS.aloadN X_96.here hx rfl (hb hby at_96) rfl rfl) ?_
      show own_Go p e below _ (T_96.setTop (mkF m 97 #[.val (.int p1), .val (.int p2), .val (.int p3), .val (.ref b_1), .val (.int ((p3 &&& (7 : Int32)) % (7 : Int32))), .val (.int (2 : Int32)), .unset, .unset, .unset, .unset] [(.ref b_1)]))
      refine own_via (fun _ => XS.iload X_96.here hx rfl (hb hby at_97) rfl) ?_
      show own_Go p e below _ (T_96.setTop (mkF m 99 #[.val (.int p1), .val (.int p2), .val (.int p3), .val (.ref b_1), .val (.int ((p3 &&& (7 : Int32)) % (7 : Int32))), .val (.int (2 : Int32)), .unset, .unset, .unset, .unset] [(.int (2 : Int32)), (.ref b_1)]))
      refine own_via (fun _ => XS.iconst X_96.here hx rfl (hb hby at_99)) ?_
      show own_Go p e below _ (T_96.setTop (mkF m 100 #[.val (.int p1), .val (.int p2), .val (.int p3), .val (.ref b_1), .val (.int ((p3 &&& (7 : Int32)) % (7 : Int32))), .val (.int (2 : Int32)), .unset, .unset, .unset, .unset] [(.int (2 : Int32)), (.int (2 : Int32)), (.ref b_1)]))
      refine own_via (fun _ => XS.iadd X_96.here hx rfl (hb hby at_100) rfl) ?_
      show own_Go p e below _ (T_96.setTop (mkF m 101 #[.val (.int p1), .val (.int p2), .val (.int p3), .val (.ref b_1), .val (.int ((p3 &&& (7 : Int32)) % (7 : Int32))), .val (.int (2 : Int32)), .unset, .unset, .unset, .unset] [(.int (4 : Int32)), (.ref b_1)]))
      refine own_via (fun _ => XS.bipush X_96.here hx rfl (hb hby at_101)) ?_
      show own_Go p e below _ (T_96.setTop (mkF m 103 #[.val (.int p1), .val (.int p2), .val (.int p3), .val (.ref b_1), .val (.int ((p3 &&& (7 : Int32)) % (7 : Int32))), .val (.int (2 : Int32)), .unset, .unset, .unset, .unset] [(.int (64 : Int32)), (.int (4 : Int32)), (.ref b_1)]))
      obtain ⟨cl_97, Ar_97, q_97, S_97, M_97, H_97, G_97⟩ := (id V_96)
      obtain ⟨T_97, h_97, X_97, e_97, W_97, st_97⟩ := stC X_96 hx hZ e_96 Ar_97 (j := (4 : Int32)) (inb_of S_97 ⟨by decide, by decide⟩) (g := (mkF m 103 #[.val (.int p1), .val (.int p2), .val (.int p3), .val (.ref b_1), .val (.int ((p3 &&& (7 : Int32)) % (7 : Int32))), .val (.int (2 : Int32)), .unset, .unset, .unset, .unset] [(.int (64 : Int32)), (.int (4 : Int32)), (.ref b_1)])) rfl rfl (hb hby at_103)
      have V_97 : Arv Z h_97 b_1 k_1 .char (6 : Int32) [(.int d0), (.int d1), (.int (64 : Int32)), (.int (45 : Int32)), (.int (64 : Int32)), (.int d5)] (.int (0 : Int32)) := Arv.set Ar_97 q_97 S_97 M_97 H_97 G_97 (fits_nar_char _) W_97 4 rfl (Nat.le_of_ble_eq_true rfl)
      have N_97 := Fr.snoc X_97 N_96 (Nat.le_trans Z0 (Nat.le_of_eq g_1.symm))
      refine own_via st_97 ?_
      show own_Go p e below _ (T_97.setTop (mkF m 104 #[.val (.int p1), .val (.int p2), .val (.int p3), .val (.ref b_1), .val (.int ((p3 &&& (7 : Int32)) % (7 : Int32))), .val (.int (2 : Int32)), .unset, .unset, .unset, .unset] []))
      have K_98 : Keep h_24 h_95 [b_1] := Keep.wr (ws := [b_1]) (own_keep_mono (Keep.refl h_24 []) (by simp)) W_95 (Or.inl (List.mem_of_getElem? (i := 0) rfl))
      have K_99 : Keep h_24 h_96 [b_1] := Keep.wr (ws := [b_1]) K_98 W_96 (Or.inl (List.mem_of_getElem? (i := 0) rfl))
      have K_100 : Keep h_24 h_97 [b_1] := Keep.wr (ws := [b_1]) K_99 W_97 (Or.inl (List.mem_of_getElem? (i := 0) rfl))
      exact kj_26 _ _ d0 q_3_0 d1 q_7_0 (64 : Int32) (by decide) (45 : Int32) (by decide) (64 : Int32) (by decide) d5 q_23_0 (2 : Int32) X_97 _ e_97 K_100 V_97 N_97
    · rw [hf4]
      show own_Go p e below _ (T_24.setTop (mkF m 82 #[.val (.int p1), .val (.int p2), .val (.int p3), .val (.ref b_1), .val (.int ((p3 &&& (7 : Int32)) % (7 : Int32))), .val (.int (3 : Int32)), .unset, .unset, .unset, .unset] []))
      refine own_via (fun _ => XS.aloadN X_24.here hx rfl (hb hby at_82) rfl rfl) ?_
      show own_Go p e below _ (T_24.setTop (mkF m 83 #[.val (.int p1), .val (.int p2), .val (.int p3), .val (.ref b_1), .val (.int ((p3 &&& (7 : Int32)) % (7 : Int32))), .val (.int (3 : Int32)), .unset, .unset, .unset, .unset] [(.ref b_1)]))
      refine own_via (fun _ => XS.iload X_24.here hx rfl (hb hby at_83) rfl) ?_
      show own_Go p e below _ (T_24.setTop (mkF m 85 #[.val (.int p1), .val (.int p2), .val (.int p3), .val (.ref b_1), .val (.int ((p3 &&& (7 : Int32)) % (7 : Int32))), .val (.int (3 : Int32)), .unset, .unset, .unset, .unset] [(.int (3 : Int32)), (.ref b_1)]))
      refine own_via (fun _ => XS.bipush X_24.here hx rfl (hb hby at_85)) ?_
      show own_Go p e below _ (T_24.setTop (mkF m 87 #[.val (.int p1), .val (.int p2), .val (.int p3), .val (.ref b_1), .val (.int ((p3 &&& (7 : Int32)) % (7 : Int32))), .val (.int (3 : Int32)), .unset, .unset, .unset, .unset] [(.int (64 : Int32)), (.int (3 : Int32)), (.ref b_1)]))
      obtain ⟨cl_101, Ar_101, q_101, S_101, M_101, H_101, G_101⟩ := (id V_25)
      obtain ⟨T_101, h_101, X_101, e_101, W_101, st_101⟩ := stC X_24 hx hZ e_24 Ar_101 (j := (3 : Int32)) (inb_of S_101 ⟨by decide, by decide⟩) (g := (mkF m 87 #[.val (.int p1), .val (.int p2), .val (.int p3), .val (.ref b_1), .val (.int ((p3 &&& (7 : Int32)) % (7 : Int32))), .val (.int (3 : Int32)), .unset, .unset, .unset, .unset] [(.int (64 : Int32)), (.int (3 : Int32)), (.ref b_1)])) rfl rfl (hb hby at_87)
      have V_101 : Arv Z h_101 b_1 k_1 .char (6 : Int32) [(.int d0), (.int d1), (.int d2), (.int (64 : Int32)), (.int d4), (.int d5)] (.int (0 : Int32)) := Arv.set Ar_101 q_101 S_101 M_101 H_101 G_101 (fits_nar_char _) W_101 3 rfl (Nat.le_of_ble_eq_true rfl)
      have N_101 := Fr.snoc X_101 N_24 (Nat.le_trans Z0 (Nat.le_of_eq g_1.symm))
      refine own_via st_101 ?_
      show own_Go p e below _ (T_101.setTop (mkF m 88 #[.val (.int p1), .val (.int p2), .val (.int p3), .val (.ref b_1), .val (.int ((p3 &&& (7 : Int32)) % (7 : Int32))), .val (.int (3 : Int32)), .unset, .unset, .unset, .unset] []))
      refine own_via (fun _ => XS.aloadN X_101.here hx rfl (hb hby at_88) rfl rfl) ?_
      show own_Go p e below _ (T_101.setTop (mkF m 89 #[.val (.int p1), .val (.int p2), .val (.int p3), .val (.ref b_1), .val (.int ((p3 &&& (7 : Int32)) % (7 : Int32))), .val (.int (3 : Int32)), .unset, .unset, .unset, .unset] [(.ref b_1)]))
      refine own_via (fun _ => XS.iload X_101.here hx rfl (hb hby at_89) rfl) ?_
      show own_Go p e below _ (T_101.setTop (mkF m 91 #[.val (.int p1), .val (.int p2), .val (.int p3), .val (.ref b_1), .val (.int ((p3 &&& (7 : Int32)) % (7 : Int32))), .val (.int (3 : Int32)), .unset, .unset, .unset, .unset] [(.int (3 : Int32)), (.ref b_1)]))
      refine own_via (fun _ => XS.iconst X_101.here hx rfl (hb hby at_91)) ?_
      show own_Go p e below _ (T_101.setTop (mkF m 92 #[.val (.int p1), .val (.int p2), .val (.int p3), .val (.ref b_1), .val (.int ((p3 &&& (7 : Int32)) % (7 : Int32))), .val (.int (3 : Int32)), .unset, .unset, .unset, .unset] [(.int (1 : Int32)), (.int (3 : Int32)), (.ref b_1)]))
      refine own_via (fun _ => XS.iadd X_101.here hx rfl (hb hby at_92) rfl) ?_
      show own_Go p e below _ (T_101.setTop (mkF m 93 #[.val (.int p1), .val (.int p2), .val (.int p3), .val (.ref b_1), .val (.int ((p3 &&& (7 : Int32)) % (7 : Int32))), .val (.int (3 : Int32)), .unset, .unset, .unset, .unset] [(.int (4 : Int32)), (.ref b_1)]))
      refine own_via (fun _ => XS.bipush X_101.here hx rfl (hb hby at_93)) ?_
      show own_Go p e below _ (T_101.setTop (mkF m 95 #[.val (.int p1), .val (.int p2), .val (.int p3), .val (.ref b_1), .val (.int ((p3 &&& (7 : Int32)) % (7 : Int32))), .val (.int (3 : Int32)), .unset, .unset, .unset, .unset] [(.int (45 : Int32)), (.int (4 : Int32)), (.ref b_1)]))
      obtain ⟨cl_102, Ar_102, q_102, S_102, M_102, H_102, G_102⟩ := (id V_101)
      obtain ⟨T_102, h_102, X_102, e_102, W_102, st_102⟩ := stC X_101 hx hZ e_101 Ar_102 (j := (4 : Int32)) (inb_of S_102 ⟨by decide, by decide⟩) (g := (mkF m 95 #[.val (.int p1), .val (.int p2), .val (.int p3), .val (.ref b_1), .val (.int ((p3 &&& (7 : Int32)) % (7 : Int32))), .val (.int (3 : Int32)), .unset, .unset, .unset, .unset] [(.int (45 : Int32)), (.int (4 : Int32)), (.ref b_1)])) rfl rfl (hb hby at_95)
      have V_102 : Arv Z h_102 b_1 k_1 .char (6 : Int32) [(.int d0), (.int d1), (.int d2), (.int (64 : Int32)), (.int (45 : Int32)), (.int d5)] (.int (0 : Int32)) := Arv.set Ar_102 q_102 S_102 M_102 H_102 G_102 (fits_nar_char _) W_102 4 rfl (Nat.le_of_ble_eq_true rfl)
      have N_102 := Fr.snoc X_102 N_101 (Nat.le_trans Z0 (Nat.le_of_eq g_1.symm))
      refine own_via st_102 ?_
      show own_Go p e below _ (T_102.setTop (mkF m 96 #[.val (.int p1), .val (.int p2), .val (.int p3), .val (.ref b_1), .val (.int ((p3 &&& (7 : Int32)) % (7 : Int32))), .val (.int (3 : Int32)), .unset, .unset, .unset, .unset] []))
      refine own_via (fun _ => XS.aloadN X_102.here hx rfl (hb hby at_96) rfl rfl) ?_
      show own_Go p e below _ (T_102.setTop (mkF m 97 #[.val (.int p1), .val (.int p2), .val (.int p3), .val (.ref b_1), .val (.int ((p3 &&& (7 : Int32)) % (7 : Int32))), .val (.int (3 : Int32)), .unset, .unset, .unset, .unset] [(.ref b_1)]))
      refine own_via (fun _ => XS.iload X_102.here hx rfl (hb hby at_97) rfl) ?_
      show own_Go p e below _ (T_102.setTop (mkF m 99 #[.val (.int p1), .val (.int p2), .val (.int p3), .val (.ref b_1), .val (.int ((p3 &&& (7 : Int32)) % (7 : Int32))), .val (.int (3 : Int32)), .unset, .unset, .unset, .unset] [(.int (3 : Int32)), (.ref b_1)]))
      refine own_via (fun _ => XS.iconst X_102.here hx rfl (hb hby at_99)) ?_
      show own_Go p e below _ (T_102.setTop (mkF m 100 #[.val (.int p1), .val (.int p2), .val (.int p3), .val (.ref b_1), .val (.int ((p3 &&& (7 : Int32)) % (7 : Int32))), .val (.int (3 : Int32)), .unset, .unset, .unset, .unset] [(.int (2 : Int32)), (.int (3 : Int32)), (.ref b_1)]))
      refine own_via (fun _ => XS.iadd X_102.here hx rfl (hb hby at_100) rfl) ?_
      show own_Go p e below _ (T_102.setTop (mkF m 101 #[.val (.int p1), .val (.int p2), .val (.int p3), .val (.ref b_1), .val (.int ((p3 &&& (7 : Int32)) % (7 : Int32))), .val (.int (3 : Int32)), .unset, .unset, .unset, .unset] [(.int (5 : Int32)), (.ref b_1)]))
      refine own_via (fun _ => XS.bipush X_102.here hx rfl (hb hby at_101)) ?_
      show own_Go p e below _ (T_102.setTop (mkF m 103 #[.val (.int p1), .val (.int p2), .val (.int p3), .val (.ref b_1), .val (.int ((p3 &&& (7 : Int32)) % (7 : Int32))), .val (.int (3 : Int32)), .unset, .unset, .unset, .unset] [(.int (64 : Int32)), (.int (5 : Int32)), (.ref b_1)]))
      obtain ⟨cl_103, Ar_103, q_103, S_103, M_103, H_103, G_103⟩ := (id V_102)
      obtain ⟨T_103, h_103, X_103, e_103, W_103, st_103⟩ := stC X_102 hx hZ e_102 Ar_103 (j := (5 : Int32)) (inb_of S_103 ⟨by decide, by decide⟩) (g := (mkF m 103 #[.val (.int p1), .val (.int p2), .val (.int p3), .val (.ref b_1), .val (.int ((p3 &&& (7 : Int32)) % (7 : Int32))), .val (.int (3 : Int32)), .unset, .unset, .unset, .unset] [(.int (64 : Int32)), (.int (5 : Int32)), (.ref b_1)])) rfl rfl (hb hby at_103)
      have V_103 : Arv Z h_103 b_1 k_1 .char (6 : Int32) [(.int d0), (.int d1), (.int d2), (.int (64 : Int32)), (.int (45 : Int32)), (.int (64 : Int32))] (.int (0 : Int32)) := Arv.set Ar_103 q_103 S_103 M_103 H_103 G_103 (fits_nar_char _) W_103 5 rfl (Nat.le_of_ble_eq_true rfl)
      have N_103 := Fr.snoc X_103 N_102 (Nat.le_trans Z0 (Nat.le_of_eq g_1.symm))
      refine own_via st_103 ?_
      show own_Go p e below _ (T_103.setTop (mkF m 104 #[.val (.int p1), .val (.int p2), .val (.int p3), .val (.ref b_1), .val (.int ((p3 &&& (7 : Int32)) % (7 : Int32))), .val (.int (3 : Int32)), .unset, .unset, .unset, .unset] []))
      have K_104 : Keep h_24 h_101 [b_1] := Keep.wr (ws := [b_1]) (own_keep_mono (Keep.refl h_24 []) (by simp)) W_101 (Or.inl (List.mem_of_getElem? (i := 0) rfl))
      have K_105 : Keep h_24 h_102 [b_1] := Keep.wr (ws := [b_1]) K_104 W_102 (Or.inl (List.mem_of_getElem? (i := 0) rfl))
      have K_106 : Keep h_24 h_103 [b_1] := Keep.wr (ws := [b_1]) K_105 W_103 (Or.inl (List.mem_of_getElem? (i := 0) rfl))
      exact kj_26 _ _ d0 q_3_0 d1 q_7_0 d2 q_11_0 (64 : Int32) (by decide) (45 : Int32) (by decide) (64 : Int32) (by decide) (3 : Int32) X_103 _ e_103 K_106 V_103 N_103
  · refine own_via (fun _ => XS.icmpYes X_24.here hx rfl (pc0 := 79) (pc' := 104) rfl (hb hby at_79) rfl (flt (hlt4 : ¬ ((((p3.toUInt32 >>> ((3 : Int32) &&& 31).toUInt32).toInt32) &&& (7 : Int32)) < (4 : Int32)))).2.1 (by decide) (by decide)) ?_
    show own_Go p e below _ (T_24.setTop (mkF m 104 #[.val (.int p1), .val (.int p2), .val (.int p3), .val (.ref b_1), .val (.int ((p3 &&& (7 : Int32)) % (7 : Int32))), .val (.int (((p3.toUInt32 >>> ((3 : Int32) &&& 31).toUInt32).toInt32) &&& (7 : Int32))), .unset, .unset, .unset, .unset] []))
    exact kj_26 _ _ d0 q_3_0 d1 q_7_0 d2 q_11_0 d3 q_15_0 d4 q_19_0 d5 q_23_0 (((p3.toUInt32 >>> ((3 : Int32) &&& 31).toUInt32).toInt32) &&& (7 : Int32)) X_24 _ e_24 (own_keep_mono (Keep.refl h_24 []) (by simp)) V_25 N_24
set_option maxRecDepth 65536 in
set_option maxHeartbeats 40000000 in
theorem comes_1 {Post : Tables → Env → Array Value → State → Outcome → State → Prop} (hpost : ∀ tb e args s v u, (limb_1_1.after args s (.returned v) u = true ∧ limb_1_2.after args s (.returned v) u = true ∧ True) → FramedW s (.returned v) u (Jvm.fieldLocs frame_1_writes args s ++ Jvm.arrayLocs frame_1_arrays args s ++ Jvm.staticLocs frame_1_statics s) 32 3264 → Post tb e args s (.returned v) u) :
    ArmFor flags0 classFile x code maxLocals ret World_1 tables_1 room_1 Calls_1 rest_1 Pre_1 Post := by
  intro l hfl _ _ p e ha hc hk s m args below hf hA hF happ hP
  obtain ⟨hcalls, hrest, hpre⟩ := hP
  obtain ⟨-, -, -, hnamed, -, -, -, hat⟩ := (Spec.applies_iff hf).mp happ
  obtain ⟨hg, hn⟩ := and_e (Cond.before_iff.mp (show (Jvm.Cond.and given_1 narrow_1).before args s = true from hpre))
  obtain ⟨ga0, gb0⟩ := and_e hg
  obtain ⟨ga1, gb1⟩ := and_e gb0
  obtain ⟨ga2, gb2⟩ := and_e gb1
  obtain ⟨w0, w1, w2, rfl⟩ : ∃ w0 w1 w2 : Value, args = #[w0, w1, w2] := by
    have hs : args.size = 3 := by simpa [Cond.value, given_1] using ga0
    obtain ⟨L⟩ := args
    match L, hs with
    | [w0, w1, w2], _ => exact ⟨w0, w1, w2, rfl⟩
  have hw := fun d (hd : d ∈ tables_1) => atoms_spec (ws := Jvm.Cond.code x code maxLocals ret :: tables_1) hat d (List.mem_cons_of_mem _ hd)
  have hfit : Fit s := fun {y c} hc i hi => by
    obtain ⟨ha, rfl⟩ := Array.getElem?_eq_some_iff.mp hc
    have q := List.all_eq_true.mp ((Array.all_eq_true_iff_forall_mem.mp hF) _ (Array.getElem_mem ha)) i (List.mem_range.mpr hi)
    simpa [Array.getElem?_eq_getElem hi] using q
  obtain ⟨i0, ei0⟩ := is_v ga1
  obtain rfl : w0 = (.int i0) := Option.some.inj ei0
  obtain ⟨i1, ei1⟩ := is_v ga2
  obtain rfl : w1 = (.int i1) := Option.some.inj ei1
  obtain ⟨i2, ei2⟩ := is_v gb2
  obtain rfl : w2 = (.int i2) := Option.some.inj ei2
  obtain ⟨hsets, hown0⟩ := atoms_of _ (rest_1_c_eq ▸ (show rest_1_c.before _ s = true from hrest))
  obtain ⟨cs, tcs⟩ := is_v (Cond.before_iff.mp (hsets _ (List.mem_of_getElem? (i := 1) rfl)))
  have Scs := Sta.start tcs (Or.inl (hsets _ (List.mem_of_getElem? (i := 0) rfl)))
  have hcs : ¬ (cs = (0 : Int32)) := fun q => by
    subst q
    have h1 := not_v (Cond.before_iff.mp (hsets _ (List.mem_of_getElem? (i := 2) rfl)))
    rw [eq_i tcs (Term.int_eval (0)) rfl] at h1
    cases h1
  obtain ⟨sf, tsf, hsf⟩ := isR_v (Cond.before_iff.mp (hsets _ (List.mem_of_getElem? (i := 8) rfl)))
  have Ssf := Sta.start tsf (Or.inl (hsets _ (List.mem_of_getElem? (i := 7) rfl)))
  have hcw : Jvm.Lit.compactW.before _ s = true := hsets _ (List.mem_of_getElem? (i := 2) rfl)
  have hhc : ∀ p ∈ consts_1, Jvm.Lit.constHeld s p.1 p.2 := fun p hp => hcalls.1 p hp
  have J0 : CHv s consts_1 s.vm s.heap := CHv.start (own_EW hw) hhc hcw (own_w hw 26 rfl) (own_w hw 9 rfl)
  obtain ⟨n, o, h1, h2, h3, _, L, rfl, ⟨rfl, N, -⟩, hq⟩ := rm0 l s _ hw tables_1 i0 i1 i2 cs sf s.heap s.heap.size (Nat.le_refl _) (Old.start s) Scs hcs Ssf hsf p e ha hc hk s m _ below hf ((Spec.applies_iff_loose hf).mp happ).1 ⟨rfl, State.Warmed39.refl s, rfl, J0⟩ trivial
  refine ⟨n, _, h1, h2, h3, hpost _ _ _ _ _ _ ⟨Cond.after_iff.mpr rfl, Cond.after_iff.mpr (eq_i res_at (Term.int_eval (1)) rfl), trivial⟩ ⟨hq.1, hq.2.1, hq.2.2.1, (hq.2.2.2.sift fun y hy => Or.inr (N y hy)).mono (by decide) (by decide)⟩⟩
theorem main_1_1 : Claimed_1_1 := comes_1 fun _ _ _ _ _ _ h hF => ⟨h.1, hF⟩
theorem main_1_2 : Claimed_1_2 := comes_1 fun _ _ _ _ _ _ h hF => ⟨h.2.1, hF⟩
end Jvm.Pilot.@@N@@
namespace Jvm.Pilot.@@N@@
open Jvm Jvm.ClassFile Sem Op Lib Jvm.Free Jvm.Stand Jvm.Pilot.@@N@@.Jvm.D
/-! MADE BY PROGRAM (witnessworld.py) out of the Statement's table words and the real class files: 21 classes; the members and pool entries that the words name. The judged class is class 1, her method 4. -/
namespace start1
open Jvm.ClassFile
def u (s : String) : CpInfo := .utf8 (stringToUtf16 s)
/-- a pool by its gaps: so many unusable entries, then the entry; so many at the end -/
def gap : Nat → List CpInfo → List CpInfo
  | 0, r => r
  | n + 1, r => .unusable :: gap n r
def poolList (es : List (Nat × CpInfo)) (last : Nat) : List CpInfo := es.foldr (fun e r => gap e.1 (e.2 :: r)) (gap last [])
def pool (es : List (Nat × CpInfo)) (last : Nat) : Array CpInfo := ⟨poolList es last⟩
def fileOf (pool : Array CpInfo) (this : Nat) (attrs : Array Attribute := #[]) (ms : Array MethodInfo := #[]) (fl : Nat := 33) (sup : Nat := 0) (ifs : Array Nat := #[]) (fds : Array FieldInfo := #[]) : ClassFile where
  minorVersion := 0
  majorVersion := 65
  constantPool := pool
  accessFlags := fl
  thisClass := this
  superClass := sup
  interfaces := ifs
  fields := fds
  methods := ms
  attributes := attrs
def plain (name : String) (sup : Option ClassId) : Class where
  name := name
  kind := .ordinary
  loader := none
  accessFlags := 33
  super := sup
  interfaces := #[]
  cf := none
  fields := #[]
  methods := #[]
  instanceTypes := #[]
  staticTypes := #[]
  resolved := #[]
  callSites := []
  init := .initialized
  statics := none
  mirror := none

def pool0 : Array CpInfo := pool [(5, u "<init>"), (0, u "()V"), (1, .class_ 10), (1, u "java/lang/Object")] 113

def k0c0 : Code := { maxStack := 0, maxLocals := 1, code := object_method_1_code, exceptionTable := #[], attributes := #[] }
def k0m0 : Method := { name := "<init>", desc := "()V", sig := { parameters := [], returnType := none }, accessFlags := 1, code := some k0c0 }
/-- java/lang/Object -/
def k0 : Class := { plain "java/lang/Object" none with
  accessFlags := 33
  interfaces := #[]
  cf := some (fileOf pool0 8 #[] #[{ accessFlags := 1, nameIndex := 5, descriptorIndex := 6, attributes := #[] }] 33 0 #[] #[])
  fields := #[]
  methods := #[k0m0]
  instanceTypes := #[]
  staticTypes := #[]
  resolved := Array.replicate 124 none
  statics := none }

def pool1 : Array CpInfo := pool [(2, .class_ 4), (1, u "java/lang/Object"), (0, u "<init>"), (0, u "()V"), (0, .class_ 8), (0, u "java/lang/String"), (0, .methodref 7 10), (0, .nameAndType 5 11), (0, u "([C)V"), (0, .methodref 13 14), (0, .class_ 15), (0, .nameAndType 16 17), (0, u "com/example/hollow_crown/hollowcrown/instance/InstanceIdIpOfPinLaw"), (0, u "draw"), (0, u "(I)C"), (0, .methodref 13 19), (0, .nameAndType 20 21), (0, u "mk"), (0, u "(I[C)Ljava/lang/String;"), (0, .methodref 13 23), (0, .nameAndType 24 25), (0, u "sepAt"), (0, u "([CII)Z"), (0, .methodref 27 28), (0, .class_ 29), (0, .nameAndType 30 31), (0, u "com/example/hollow_crown/hollowcrown/instance/InstanceId"), (0, u "ipOf"), (0, u "(Ljava/lang/String;)Ljava/lang/String;"), (0, .methodref 7 33), (0, .nameAndType 34 35), (0, u "equals"), (0, u "(Ljava/lang/Object;)Z"), (3, u "law"), (0, u "(III)Z")] 4

def k1m0 : Method := { name := "<init>", desc := "()V", sig := { parameters := [], returnType := none }, accessFlags := 1, code := none }
def k1c1 : Code := { maxStack := 2, maxLocals := 2, code := method_2_code, exceptionTable := #[], attributes := #[] }
def k1m1 : Method := { name := "draw", desc := "(I)C", sig := { parameters := [.int], returnType := some .char }, accessFlags := 10, code := some k1c1 }
def k1c2 : Code := { maxStack := 7, maxLocals := 2, code := method_3_code, exceptionTable := #[], attributes := #[] }
def k1m2 : Method := { name := "mk", desc := "(I[C)Ljava/lang/String;", sig := { parameters := [.int, (.array .char)], returnType := some (.object "java/lang/String") }, accessFlags := 10, code := some k1c2 }
def k1c3 : Code := { maxStack := 3, maxLocals := 3, code := method_4_code, exceptionTable := #[], attributes := #[] }
def k1m3 : Method := { name := "sepAt", desc := "([CII)Z", sig := { parameters := [(.array .char), .int, .int], returnType := some .boolean }, accessFlags := 10, code := some k1c3 }
def k1c4 : Code := { maxStack := 4, maxLocals := 10, code := code, exceptionTable := #[], attributes := #[] }
def k1m4 : Method := { name := "law", desc := "(III)Z", sig := { parameters := [.int, .int, .int], returnType := some .boolean }, accessFlags := 9, code := some k1c4 }
/-- com/example/hollow_crown/hollowcrown/instance/InstanceIdIpOfPinLaw -/
def k1 : Class := { plain "com/example/hollow_crown/hollowcrown/instance/InstanceIdIpOfPinLaw" (some 0) with
  accessFlags := 49
  interfaces := #[]
  cf := some (fileOf pool1 13 #[] #[{ accessFlags := 1, nameIndex := 5, descriptorIndex := 6, attributes := #[] }, { accessFlags := 10, nameIndex := 16, descriptorIndex := 17, attributes := #[] }, { accessFlags := 10, nameIndex := 20, descriptorIndex := 21, attributes := #[] }, { accessFlags := 10, nameIndex := 24, descriptorIndex := 25, attributes := #[] }, { accessFlags := 9, nameIndex := 39, descriptorIndex := 40, attributes := #[] }] 49 2 #[] #[])
  fields := #[]
  methods := #[k1m0, k1m1, k1m2, k1m3, k1m4]
  instanceTypes := #[]
  staticTypes := #[]
  resolved := Array.replicate 45 none
  statics := none }

def pool2 : Array CpInfo := pool [(1, .class_ 2), (0, u "java/io/Serializable"), (0, .class_ 4), (0, u "java/lang/Object")] 2

/-- java/io/Serializable -/
def k2 : Class := { plain "java/io/Serializable" (some 0) with
  accessFlags := 1537
  interfaces := #[]
  cf := some (fileOf pool2 1 #[] #[] 1537 3 #[] #[])
  fields := #[]
  methods := #[]
  instanceTypes := #[]
  staticTypes := #[]
  resolved := Array.replicate 7 none
  statics := none }

def pool3 : Array CpInfo := pool [(1, .class_ 2), (0, u "java/lang/Comparable"), (0, .class_ 4), (0, u "java/lang/Object")] 7

/-- java/lang/Comparable -/
def k3 : Class := { plain "java/lang/Comparable" (some 0) with
  accessFlags := 1537
  interfaces := #[]
  cf := some (fileOf pool3 1 #[] #[] 1537 3 #[] #[])
  fields := #[]
  methods := #[]
  instanceTypes := #[]
  staticTypes := #[]
  resolved := Array.replicate 12 none
  statics := none }

def pool4 : Array CpInfo := pool [(2, .class_ 4), (1, u "java/lang/CharSequence"), (42, .class_ 48), (0, u "java/lang/CharSequence$1CodePointIterator"), (10, .class_ 60), (0, u "java/lang/CharSequence$1CharIterator"), (5, .class_ 67), (0, u "java/lang/Object")] 63

/-- java/lang/CharSequence -/
def k4 : Class := { plain "java/lang/CharSequence" (some 0) with
  accessFlags := 1537
  interfaces := #[]
  cf := some (fileOf pool4 2 #[.nestMembers #[47, 59]] #[] 1537 66 #[] #[])
  fields := #[]
  methods := #[]
  instanceTypes := #[]
  staticTypes := #[]
  resolved := Array.replicate 131 none
  statics := none }

def pool5 : Array CpInfo := pool [(1, .class_ 2), (0, u "java/lang/constant/Constable"), (0, .class_ 4), (0, u "java/lang/Object")] 6

/-- java/lang/constant/Constable -/
def k5 : Class := { plain "java/lang/constant/Constable" (some 0) with
  accessFlags := 1537
  interfaces := #[]
  cf := some (fileOf pool5 1 #[] #[] 1537 3 #[] #[])
  fields := #[]
  methods := #[]
  instanceTypes := #[]
  staticTypes := #[]
  resolved := Array.replicate 11 none
  statics := none }

def pool6 : Array CpInfo := pool [(1, .class_ 2), (0, u "java/lang/constant/ConstantDesc"), (0, .class_ 4), (0, u "java/lang/Object")] 32

/-- java/lang/constant/ConstantDesc -/
def k6 : Class := { plain "java/lang/constant/ConstantDesc" (some 0) with
  accessFlags := 1537
  interfaces := #[]
  cf := some (fileOf pool6 1 #[] #[] 1537 3 #[] #[])
  fields := #[]
  methods := #[]
  instanceTypes := #[]
  staticTypes := #[]
  resolved := Array.replicate 37 none
  statics := none }

def pool7 : Array CpInfo := pool [(1, .methodref 2 3), (0, .class_ 4), (0, .nameAndType 5 6), (0, u "java/lang/Object"), (0, u "<init>"), (0, u "()V"), (0, .string 8), (0, u ""), (0, .fieldref 10 11), (0, .class_ 12), (0, .nameAndType 13 14), (0, u "java/lang/String"), (0, u "value"), (0, u "[B"), (0, .fieldref 10 16), (0, .nameAndType 17 18), (0, u "coder"), (0, u "B"), (2, u "hash"), (0, u "I"), (2, u "hashIsZero"), (0, u "Z"), (0, .methodref 10 28), (0, .nameAndType 5 29), (0, u "([CIILjava/lang/Void;)V"), (8, .fieldref 10 39), (0, .nameAndType 40 26), (0, u "COMPACT_STRINGS"), (1, .class_ 44), (1, u "java/lang/StringUTF16"), (0, u "compress"), (1, .methodref 42 48), (0, .nameAndType 49 50), (0, u "coderFromArrayLen"), (0, u "([BI)B"), (56, .class_ 109), (1, u "java/lang/StringLatin1"), (32, u "()Z"), (34, .methodref 42 178), (0, .nameAndType 45 179), (0, u "([CII)[B"), (31, u "([BB)V"), (122, u "()I"), (0, .methodref 10 336), (0, .nameAndType 17 337), (0, u "()B"), (154, .methodref 10 493), (0, .nameAndType 494 142), (0, u "isLatin1"), (10, .methodref 10 506), (0, .nameAndType 507 334), (0, u "length"), (5, u "checkFromToIndex"), (7, .methodref 10 522), (0, .nameAndType 523 524), (0, u "checkBoundsBeginEnd"), (0, u "(III)V"), (16, .methodref 107 542), (0, .nameAndType 543 544), (0, u "equals"), (0, u "([B[B)Z"), (28, u "(Ljava/lang/Object;)Z"), (1, .class_ 576), (0, u "java/lang/CharSequence"), (12, u "([B[B)I"), (9, u "CASE_INSENSITIVE_ORDER"), (0, u "Ljava/util/Comparator;"), (34, u "indexOf"), (11, .methodref 107 648), (0, .nameAndType 635 589), (34, u "substring"), (0, u "(II)Ljava/lang/String;"), (0, .methodref 107 686), (0, .nameAndType 687 688), (0, u "newString"), (0, u "([BII)Ljava/lang/String;"), (24, u "(Ljava/lang/String;)I"), (296, u "([C)V"), (42, .fieldref 1054 1055), (0, .class_ 1056), (0, .nameAndType 1057 1058), (0, u "jdk/internal/util/Preconditions"), (0, u "SIOOBE_FORMATTER"), (0, u "Ljava/util/function/BiFunction;"), (3, .methodref 1054 1063), (0, .nameAndType 513 1064), (0, u "(IIILjava/util/function/BiFunction;)I"), (36, u "serialPersistentFields"), (0, u "[Ljava/io/ObjectStreamField;"), (0, .class_ 1104), (0, u "java/lang/String$CaseInsensitiveComparator"), (1, .class_ 1107), (0, u "java/io/Serializable"), (0, .class_ 1109), (0, u "java/lang/Comparable"), (0, .class_ 1111), (0, u "java/lang/constant/Constable"), (0, .class_ 1113), (0, u "java/lang/constant/ConstantDesc"), (2, u "serialVersionUID"), (0, u "J"), (3, u "REPL"), (0, u "C"), (2, u "LATIN1"), (1, u "UTF16")] 323

def k7m0 : Method := { name := "<init>", desc := "()V", sig := { parameters := [], returnType := none }, accessFlags := 1, code := none }
def k7c1 : Code := { maxStack := 5, maxLocals := 2, code := jdk_42_method_3_code, exceptionTable := #[], attributes := #[] }
def k7m1 : Method := { name := "<init>", desc := "([C)V", sig := { parameters := [(.array .char)], returnType := none }, accessFlags := 1, code := some k7c1 }
def k7c2 : Code := { maxStack := 2, maxLocals := 1, code := jdk_42_method_54_code, exceptionTable := #[], attributes := #[] }
def k7m2 : Method := { name := "length", desc := "()I", sig := { parameters := [], returnType := some .int }, accessFlags := 1, code := some k7c2 }
def k7c3 : Code := { maxStack := 2, maxLocals := 3, code := jdk_42_method_66_code, exceptionTable := #[], attributes := #[] }
def k7m3 : Method := { name := "equals", desc := "(Ljava/lang/Object;)Z", sig := { parameters := [(.object "java/lang/Object")], returnType := some .boolean }, accessFlags := 1, code := some k7c3 }
def k7c4 : Code := { maxStack := 2, maxLocals := 3, code := jdk_42_method_84_code, exceptionTable := #[], attributes := #[] }
def k7m4 : Method := { name := "indexOf", desc := "(Ljava/lang/String;)I", sig := { parameters := [(.object "java/lang/String")], returnType := some .int }, accessFlags := 1, code := some k7c4 }
def k7c5 : Code := { maxStack := 3, maxLocals := 5, code := jdk_42_method_92_code, exceptionTable := #[], attributes := #[] }
def k7m5 : Method := { name := "substring", desc := "(II)Ljava/lang/String;", sig := { parameters := [.int, .int], returnType := some (.object "java/lang/String") }, accessFlags := 1, code := some k7c5 }
def k7c6 : Code := { maxStack := 4, maxLocals := 6, code := jdk_42_method_149_code, exceptionTable := #[], attributes := #[] }
def k7m6 : Method := { name := "<init>", desc := "([CIILjava/lang/Void;)V", sig := { parameters := [(.array .char), .int, .int, (.object "java/lang/Void")], returnType := none }, accessFlags := 2, code := some k7c6 }
def k7c7 : Code := { maxStack := 2, maxLocals := 3, code := jdk_42_method_151_code, exceptionTable := #[], attributes := #[] }
def k7m7 : Method := { name := "<init>", desc := "([BB)V", sig := { parameters := [(.array .byte), .byte], returnType := none }, accessFlags := 0, code := some k7c7 }
def k7c8 : Code := { maxStack := 1, maxLocals := 1, code := jdk_42_method_152_code, exceptionTable := #[], attributes := #[] }
def k7m8 : Method := { name := "coder", desc := "()B", sig := { parameters := [], returnType := some .byte }, accessFlags := 0, code := some k7c8 }
def k7c9 : Code := { maxStack := 1, maxLocals := 1, code := jdk_42_method_154_code, exceptionTable := #[], attributes := #[] }
def k7m9 : Method := { name := "isLatin1", desc := "()Z", sig := { parameters := [], returnType := some .boolean }, accessFlags := 0, code := some k7c9 }
def k7c10 : Code := { maxStack := 4, maxLocals := 3, code := jdk_42_method_158_code, exceptionTable := #[], attributes := #[] }
def k7m10 : Method := { name := "checkBoundsBeginEnd", desc := "(III)V", sig := { parameters := [.int, .int, .int], returnType := none }, accessFlags := 8, code := some k7c10 }
/-- java/lang/String -/
def k7 : Class := { plain "java/lang/String" (some 0) with
  accessFlags := 49
  interfaces := #[2, 3, 4, 5, 6]
  cf := some (fileOf pool7 10 #[.nestMembers #[1103]] #[{ accessFlags := 1, nameIndex := 5, descriptorIndex := 6, attributes := #[] }, { accessFlags := 1, nameIndex := 5, descriptorIndex := 1010, attributes := #[] }, { accessFlags := 1, nameIndex := 507, descriptorIndex := 334, attributes := #[] }, { accessFlags := 1, nameIndex := 543, descriptorIndex := 573, attributes := #[] }, { accessFlags := 1, nameIndex := 635, descriptorIndex := 713, attributes := #[] }, { accessFlags := 1, nameIndex := 683, descriptorIndex := 684, attributes := #[] }, { accessFlags := 2, nameIndex := 5, descriptorIndex := 29, attributes := #[] }, { accessFlags := 0, nameIndex := 5, descriptorIndex := 211, attributes := #[] }, { accessFlags := 0, nameIndex := 17, descriptorIndex := 337, attributes := #[] }, { accessFlags := 0, nameIndex := 494, descriptorIndex := 142, attributes := #[] }, { accessFlags := 8, nameIndex := 523, descriptorIndex := 524, attributes := #[] }] 49 2 #[1106, 1108, 575, 1110, 1112] #[{ accessFlags := 18, nameIndex := 13, descriptorIndex := 14, attributes := #[] }, { accessFlags := 18, nameIndex := 17, descriptorIndex := 18, attributes := #[] }, { accessFlags := 2, nameIndex := 21, descriptorIndex := 22, attributes := #[] }, { accessFlags := 2, nameIndex := 25, descriptorIndex := 26, attributes := #[] }, { accessFlags := 26, nameIndex := 1116, descriptorIndex := 1117, attributes := #[] }, { accessFlags := 24, nameIndex := 40, descriptorIndex := 26, attributes := #[] }, { accessFlags := 26, nameIndex := 1101, descriptorIndex := 1102, attributes := #[] }, { accessFlags := 26, nameIndex := 1121, descriptorIndex := 1122, attributes := #[] }, { accessFlags := 25, nameIndex := 599, descriptorIndex := 600, attributes := #[] }, { accessFlags := 24, nameIndex := 1125, descriptorIndex := 18, attributes := #[] }, { accessFlags := 24, nameIndex := 1127, descriptorIndex := 18, attributes := #[] }])
  fields := #[{ name := "value", type := (.array .byte), accessFlags := 18, slot := 0, constantValue := 0 }, { name := "coder", type := .byte, accessFlags := 18, slot := 1, constantValue := 0 }, { name := "hash", type := .int, accessFlags := 2, slot := 2, constantValue := 0 }, { name := "hashIsZero", type := .boolean, accessFlags := 2, slot := 3, constantValue := 0 }, { name := "serialVersionUID", type := .long, accessFlags := 26, slot := 0, constantValue := 0 }, { name := "COMPACT_STRINGS", type := .boolean, accessFlags := 24, slot := 1, constantValue := 0 }, { name := "serialPersistentFields", type := (.array (.object "java/io/ObjectStreamField")), accessFlags := 26, slot := 2, constantValue := 0 }, { name := "REPL", type := .char, accessFlags := 26, slot := 3, constantValue := 0 }, { name := "CASE_INSENSITIVE_ORDER", type := (.object "java/util/Comparator"), accessFlags := 25, slot := 4, constantValue := 0 }, { name := "LATIN1", type := .byte, accessFlags := 24, slot := 5, constantValue := 0 }, { name := "UTF16", type := .byte, accessFlags := 24, slot := 6, constantValue := 0 }]
  methods := #[k7m0, k7m1, k7m2, k7m3, k7m4, k7m5, k7m6, k7m7, k7m8, k7m9, k7m10]
  instanceTypes := #[(.array .byte), .byte, .int, .boolean]
  staticTypes := #[.long, .boolean, (.array (.object "java/io/ObjectStreamField")), .char, (.object "java/util/Comparator"), .byte, .byte]
  resolved := Array.replicate 1451 none
  statics := some 0 }

def pool8 : Array CpInfo := pool [(6, .class_ 8), (1, u "java/lang/Object"), (0, u "<init>"), (0, u "()V"), (1, .class_ 14), (1, u "java/lang/StringUTF16"), (31, u "$assertionsDisabled"), (0, u "Z"), (13, u "HI_BYTE_SHIFT"), (0, u "I"), (2, u "LO_BYTE_SHIFT"), (49, .methodref 12 116), (0, .nameAndType 117 118), (0, u "compress"), (0, u "([CI[BII)I"), (3, u "([CII)[B"), (138, u "coderFromArrayLen"), (0, u "([BI)B"), (106, .class_ 371), (1, u "java/lang/StringUTF16$LinesSpliterator"), (58, u "MAX_LENGTH"), (196, .class_ 628), (0, u "java/lang/StringUTF16$CodePointsSpliterator"), (0, .class_ 630), (0, u "java/lang/StringUTF16$CharsSpliterator")] 4

def k8m0 : Method := { name := "<init>", desc := "()V", sig := { parameters := [], returnType := none }, accessFlags := 0, code := none }
def k8c1 : Code := { maxStack := 2, maxLocals := 2, code := jdk_52_method_15_code, exceptionTable := #[], attributes := #[] }
def k8m1 : Method := { name := "coderFromArrayLen", desc := "([BI)B", sig := { parameters := [(.array .byte), .int], returnType := some .byte }, accessFlags := 8, code := some k8c1 }
def k8c2 : Code := { maxStack := 5, maxLocals := 6, code := jdk_52_method_16_code, exceptionTable := #[], attributes := #[] }
def k8m2 : Method := { name := "compress", desc := "([CII)[B", sig := { parameters := [(.array .char), .int, .int], returnType := some (.array .byte) }, accessFlags := 9, code := some k8c2 }
def k8c3 : Code := { maxStack := 3, maxLocals := 7, code := jdk_52_method_21_code, exceptionTable := #[], attributes := #[] }
def k8m3 : Method := { name := "compress", desc := "([CI[BII)I", sig := { parameters := [(.array .char), .int, (.array .byte), .int, .int], returnType := some .int }, accessFlags := 9, code := some k8c3 }
/-- java/lang/StringUTF16 -/
def k8 : Class := { plain "java/lang/StringUTF16" (some 0) with
  accessFlags := 48
  interfaces := #[]
  cf := some (fileOf pool8 12 #[.nestMembers #[627, 629, 369]] #[{ accessFlags := 0, nameIndex := 9, descriptorIndex := 10, attributes := #[] }, { accessFlags := 8, nameIndex := 261, descriptorIndex := 262, attributes := #[] }, { accessFlags := 9, nameIndex := 117, descriptorIndex := 122, attributes := #[] }, { accessFlags := 9, nameIndex := 117, descriptorIndex := 118, attributes := #[] }] 48 6 #[] #[{ accessFlags := 26, nameIndex := 61, descriptorIndex := 62, attributes := #[] }, { accessFlags := 26, nameIndex := 65, descriptorIndex := 62, attributes := #[] }, { accessFlags := 24, nameIndex := 430, descriptorIndex := 62, attributes := #[] }, { accessFlags := 4120, nameIndex := 46, descriptorIndex := 47, attributes := #[] }])
  fields := #[{ name := "HI_BYTE_SHIFT", type := .int, accessFlags := 26, slot := 0, constantValue := 0 }, { name := "LO_BYTE_SHIFT", type := .int, accessFlags := 26, slot := 1, constantValue := 0 }, { name := "MAX_LENGTH", type := .int, accessFlags := 24, slot := 2, constantValue := 0 }, { name := "$assertionsDisabled", type := .boolean, accessFlags := 4120, slot := 3, constantValue := 0 }]
  methods := #[k8m0, k8m1, k8m2, k8m3]
  instanceTypes := #[]
  staticTypes := #[.int, .int, .int, .boolean]
  resolved := Array.replicate 635 none
  statics := none }

def pool9 : Array CpInfo := pool [(2, .class_ 4), (1, u "java/lang/Object"), (3, .class_ 10), (1, u "com/example/hollow_crown/hollowcrown/instance/InstanceId"), (0, u "ip"), (0, u "Ljava/lang/String;"), (2, u "pid"), (0, u "J"), (31, u "IPV4"), (0, u "Ljava/util/regex/Pattern;"), (21, u "(Ljava/lang/String;)Ljava/lang/String;"), (3, .string 76), (0, u "@-@"), (0, .methodref 78 79), (0, .class_ 80), (0, .nameAndType 81 82), (0, u "java/lang/String"), (0, u "indexOf"), (0, u "(Ljava/lang/String;)I"), (0, .methodref 78 84), (0, .nameAndType 85 86), (0, u "substring"), (0, u "(II)Ljava/lang/String;"), (23, u "IPV6_CHARACTERS"), (103, u "SEPARATOR"), (1, u "OCTET"), (9, u "ipOf")] 65

def k9c0 : Code := { maxStack := 3, maxLocals := 2, code := prog_5_method_4_code, exceptionTable := #[], attributes := #[] }
def k9m0 : Method := { name := "ipOf", desc := "(Ljava/lang/String;)Ljava/lang/String;", sig := { parameters := [(.object "java/lang/String")], returnType := some (.object "java/lang/String") }, accessFlags := 9, code := some k9c0 }
/-- com/example/hollow_crown/hollowcrown/instance/InstanceId -/
def k9 : Class := { plain "com/example/hollow_crown/hollowcrown/instance/InstanceId" (some 0) with
  accessFlags := 33
  interfaces := #[]
  cf := some (fileOf pool9 8 #[] #[{ accessFlags := 9, nameIndex := 226, descriptorIndex := 71, attributes := #[] }] 33 2 #[] #[{ accessFlags := 25, nameIndex := 214, descriptorIndex := 12, attributes := #[] }, { accessFlags := 26, nameIndex := 216, descriptorIndex := 12, attributes := #[] }, { accessFlags := 26, nameIndex := 48, descriptorIndex := 49, attributes := #[] }, { accessFlags := 26, nameIndex := 110, descriptorIndex := 49, attributes := #[] }, { accessFlags := 18, nameIndex := 11, descriptorIndex := 12, attributes := #[] }, { accessFlags := 18, nameIndex := 15, descriptorIndex := 16, attributes := #[] }])
  fields := #[{ name := "SEPARATOR", type := (.object "java/lang/String"), accessFlags := 25, slot := 0, constantValue := 0 }, { name := "OCTET", type := (.object "java/lang/String"), accessFlags := 26, slot := 1, constantValue := 0 }, { name := "IPV4", type := (.object "java/util/regex/Pattern"), accessFlags := 26, slot := 2, constantValue := 0 }, { name := "IPV6_CHARACTERS", type := (.object "java/util/regex/Pattern"), accessFlags := 26, slot := 3, constantValue := 0 }, { name := "ip", type := (.object "java/lang/String"), accessFlags := 18, slot := 0, constantValue := 0 }, { name := "pid", type := .long, accessFlags := 18, slot := 1, constantValue := 0 }]
  methods := #[k9m0]
  instanceTypes := #[(.object "java/lang/String"), .long]
  staticTypes := #[(.object "java/lang/String"), (.object "java/lang/String"), (.object "java/util/regex/Pattern"), (.object "java/util/regex/Pattern")]
  resolved := Array.replicate 292 none
  statics := none }

def pool10 : Array CpInfo := pool [(1, .class_ 2), (0, u "java/lang/String"), (1, .class_ 6), (1, u "java/lang/Object"), (0, u "<init>"), (0, u "()V"), (5, .class_ 16), (1, u "java/lang/StringLatin1"), (82, .methodref 14 100), (0, .nameAndType 101 102), (0, u "indexOf"), (0, u "([BI[BII)I"), (9, .methodref 1 113), (0, .nameAndType 7 114), (0, u "([BB)V"), (6, u "$assertionsDisabled"), (0, u "Z"), (8, .class_ 133), (1, u "java/util/Arrays"), (17, .string 152), (0, u ""), (43, u "newString"), (0, u "([BII)Ljava/lang/String;"), (23, .class_ 223), (1, u "java/lang/StringLatin1$LinesSpliterator"), (8, .methodref 131 233), (0, .nameAndType 234 235), (0, u "copyOfRange"), (0, u "([BII)[B"), (45, u "equals"), (0, u "([B[B)Z"), (4, u "([B[B)I"), (102, .class_ 391), (0, u "java/lang/StringLatin1$CharsSpliterator")] 3

def k10m0 : Method := { name := "<init>", desc := "()V", sig := { parameters := [], returnType := none }, accessFlags := 0, code := none }
def k10c1 : Code := { maxStack := 3, maxLocals := 3, code := jdk_43_method_13_code, exceptionTable := #[], attributes := #[] }
def k10m1 : Method := { name := "equals", desc := "([B[B)Z", sig := { parameters := [(.array .byte), (.array .byte)], returnType := some .boolean }, accessFlags := 9, code := some k10c1 }
def k10c2 : Code := { maxStack := 5, maxLocals := 2, code := jdk_43_method_24_code, exceptionTable := #[], attributes := #[] }
def k10m2 : Method := { name := "indexOf", desc := "([B[B)I", sig := { parameters := [(.array .byte), (.array .byte)], returnType := some .int }, accessFlags := 9, code := some k10c2 }
def k10c3 : Code := { maxStack := 3, maxLocals := 11, code := jdk_43_method_25_code, exceptionTable := #[], attributes := #[] }
def k10m3 : Method := { name := "indexOf", desc := "([BI[BII)I", sig := { parameters := [(.array .byte), .int, (.array .byte), .int, .int], returnType := some .int }, accessFlags := 9, code := some k10c3 }
def k10c4 : Code := { maxStack := 6, maxLocals := 3, code := jdk_43_method_47_code, exceptionTable := #[], attributes := #[] }
def k10m4 : Method := { name := "newString", desc := "([BII)Ljava/lang/String;", sig := { parameters := [(.array .byte), .int, .int], returnType := some (.object "java/lang/String") }, accessFlags := 9, code := some k10c4 }
/-- java/lang/StringLatin1 -/
def k10 : Class := { plain "java/lang/StringLatin1" (some 0) with
  accessFlags := 48
  interfaces := #[]
  cf := some (fileOf pool10 14 #[.nestMembers #[390, 221]] #[{ accessFlags := 0, nameIndex := 7, descriptorIndex := 8, attributes := #[] }, { accessFlags := 9, nameIndex := 281, descriptorIndex := 282, attributes := #[] }, { accessFlags := 9, nameIndex := 101, descriptorIndex := 287, attributes := #[] }, { accessFlags := 9, nameIndex := 101, descriptorIndex := 102, attributes := #[] }, { accessFlags := 9, nameIndex := 196, descriptorIndex := 197, attributes := #[] }] 48 4 #[] #[{ accessFlags := 4120, nameIndex := 121, descriptorIndex := 122, attributes := #[] }])
  fields := #[{ name := "$assertionsDisabled", type := .boolean, accessFlags := 4120, slot := 0, constantValue := 0 }]
  methods := #[k10m0, k10m1, k10m2, k10m3, k10m4]
  instanceTypes := #[]
  staticTypes := #[.boolean]
  resolved := Array.replicate 395 none
  statics := none }

def pool11 : Array CpInfo := pool [(2, .class_ 4), (1, u "java/lang/Object"), (0, u "<init>"), (0, u "()V"), (17, .class_ 26), (1, u "jdk/internal/util/Preconditions"), (20, u "checkFromToIndex"), (7, .class_ 56), (0, u "jdk/internal/util/Preconditions$4"), (57, .class_ 115), (0, u "jdk/internal/util/Preconditions$1"), (7, u "SIOOBE_FORMATTER"), (0, u "Ljava/util/function/BiFunction;"), (0, .class_ 126), (0, u "jdk/internal/util/Preconditions$2"), (3, u "AIOOBE_FORMATTER"), (0, .class_ 132), (0, u "jdk/internal/util/Preconditions$3"), (3, u "IOOBE_FORMATTER"), (46, u "(IIILjava/util/function/BiFunction;)I")] 10

def k11m0 : Method := { name := "<init>", desc := "()V", sig := { parameters := [], returnType := none }, accessFlags := 1, code := none }
def k11c1 : Code := { maxStack := 4, maxLocals := 4, code := jdk_41_method_12_code, exceptionTable := #[], attributes := #[] }
def k11m1 : Method := { name := "checkFromToIndex", desc := "(IIILjava/util/function/BiFunction;)I", sig := { parameters := [.int, .int, .int, (.object "java/util/function/BiFunction")], returnType := some .int }, accessFlags := 9, code := some k11c1 }
/-- jdk/internal/util/Preconditions -/
def k11 : Class := { plain "jdk/internal/util/Preconditions" (some 0) with
  accessFlags := 33
  interfaces := #[]
  cf := some (fileOf pool11 24 #[.nestMembers #[55, 131, 125, 114]] #[{ accessFlags := 1, nameIndex := 5, descriptorIndex := 6, attributes := #[] }, { accessFlags := 9, nameIndex := 47, descriptorIndex := 183, attributes := #[] }] 33 2 #[] #[{ accessFlags := 25, nameIndex := 123, descriptorIndex := 124, attributes := #[] }, { accessFlags := 25, nameIndex := 130, descriptorIndex := 124, attributes := #[] }, { accessFlags := 25, nameIndex := 136, descriptorIndex := 124, attributes := #[] }])
  fields := #[{ name := "SIOOBE_FORMATTER", type := (.object "java/util/function/BiFunction"), accessFlags := 25, slot := 0, constantValue := 0 }, { name := "AIOOBE_FORMATTER", type := (.object "java/util/function/BiFunction"), accessFlags := 25, slot := 1, constantValue := 0 }, { name := "IOOBE_FORMATTER", type := (.object "java/util/function/BiFunction"), accessFlags := 25, slot := 2, constantValue := 0 }]
  methods := #[k11m0, k11m1]
  instanceTypes := #[]
  staticTypes := #[(.object "java/util/function/BiFunction"), (.object "java/util/function/BiFunction"), (.object "java/util/function/BiFunction")]
  resolved := Array.replicate 194 none
  statics := some 1 }

def pool12 : Array CpInfo := pool [(2, .class_ 4), (1, u "java/lang/Object"), (0, u "<init>"), (0, u "()V"), (7, .class_ 16), (1, u "java/util/Arrays"), (57, .class_ 76), (1, u "java/util/Arrays$NaturalOrder"), (36, .class_ 115), (1, u "java/util/Arrays$LegacyMergeSort"), (1, u "Z"), (21, u "copyOfRange"), (10, .methodref 151 152), (0, .class_ 153), (0, .nameAndType 154 155), (0, u "java/lang/System"), (0, u "arraycopy"), (0, u "(Ljava/lang/Object;ILjava/lang/Object;II)V"), (148, .methodref 305 306), (0, .class_ 307), (0, .nameAndType 308 309), (0, u "java/lang/Math"), (0, u "min"), (0, u "(II)I"), (29, .methodref 14 340), (0, .nameAndType 341 342), (0, u "copyOfRangeByte"), (0, u "([BII)[B"), (0, .methodref 14 344), (0, .nameAndType 345 346), (0, u "checkLength"), (0, u "(II)V"), (28, .class_ 376), (0, u "java/util/Arrays$ArrayList"), (68, u "$assertionsDisabled"), (269, u "MIN_ARRAY_SORT_GRAN"), (0, u "I"), (2, u "INSERTIONSORT_THRESHOLD"), (255, .class_ 976), (0, u "java/util/Arrays$ArrayItr")] 52

def k12m0 : Method := { name := "<init>", desc := "()V", sig := { parameters := [], returnType := none }, accessFlags := 2, code := none }
def k12c1 : Code := { maxStack := 4, maxLocals := 2, code := jdk_65_method_131_code, exceptionTable := #[], attributes := #[] }
def k12m1 : Method := { name := "checkLength", desc := "(II)V", sig := { parameters := [.int, .int], returnType := none }, accessFlags := 10, code := some k12c1 }
def k12c2 : Code := { maxStack := 3, maxLocals := 3, code := jdk_65_method_132_code, exceptionTable := #[], attributes := #[] }
def k12m2 : Method := { name := "copyOfRange", desc := "([BII)[B", sig := { parameters := [(.array .byte), .int, .int], returnType := some (.array .byte) }, accessFlags := 9, code := some k12c2 }
def k12c3 : Code := { maxStack := 6, maxLocals := 5, code := jdk_65_method_133_code, exceptionTable := #[], attributes := #[] }
def k12m3 : Method := { name := "copyOfRangeByte", desc := "([BII)[B", sig := { parameters := [(.array .byte), .int, .int], returnType := some (.array .byte) }, accessFlags := 10, code := some k12c3 }
/-- java/util/Arrays -/
def k12 : Class := { plain "java/util/Arrays" (some 0) with
  accessFlags := 49
  interfaces := #[]
  cf := some (fileOf pool12 14 #[.nestMembers #[975, 375, 113, 74]] #[{ accessFlags := 2, nameIndex := 5, descriptorIndex := 6, attributes := #[] }, { accessFlags := 10, nameIndex := 345, descriptorIndex := 346, attributes := #[] }, { accessFlags := 9, nameIndex := 139, descriptorIndex := 342, attributes := #[] }, { accessFlags := 10, nameIndex := 341, descriptorIndex := 342, attributes := #[] }] 49 2 #[] #[{ accessFlags := 26, nameIndex := 715, descriptorIndex := 716, attributes := #[] }, { accessFlags := 26, nameIndex := 719, descriptorIndex := 716, attributes := #[] }, { accessFlags := 4120, nameIndex := 445, descriptorIndex := 117, attributes := #[] }])
  fields := #[{ name := "MIN_ARRAY_SORT_GRAN", type := .int, accessFlags := 26, slot := 0, constantValue := 0 }, { name := "INSERTIONSORT_THRESHOLD", type := .int, accessFlags := 26, slot := 1, constantValue := 0 }, { name := "$assertionsDisabled", type := .boolean, accessFlags := 4120, slot := 2, constantValue := 0 }]
  methods := #[k12m0, k12m1, k12m2, k12m3]
  instanceTypes := #[]
  staticTypes := #[.int, .int, .boolean]
  resolved := Array.replicate 1029 none
  statics := none }

def pool13 : Array CpInfo := pool [(1, .class_ 2), (0, u "java/lang/Math"), (1, .class_ 6), (1, u "java/lang/Object"), (0, u "<init>"), (0, u "()V"), (89, .class_ 100), (1, u "java/lang/Math$RandomNumberGeneratorHolder"), (71, u "negativeZeroFloatBits"), (0, u "J"), (2, u "negativeZeroDoubleBits"), (24, u "min"), (43, u "$assertionsDisabled"), (0, u "Z"), (88, u "(II)I"), (2, u "twoToTheDoubleScaleDown"), (0, u "D"), (4, u "twoToTheDoubleScaleUp"), (9, u "E"), (3, u "PI"), (2, u "TAU"), (2, u "DEGREES_TO_RADIANS"), (0, u "RADIANS_TO_DEGREES")] 94

def k13m0 : Method := { name := "<init>", desc := "()V", sig := { parameters := [], returnType := none }, accessFlags := 2, code := none }
def k13c1 : Code := { maxStack := 2, maxLocals := 2, code := jdk_29_method_69_code, exceptionTable := #[], attributes := #[] }
def k13m1 : Method := { name := "min", desc := "(II)I", sig := { parameters := [.int, .int], returnType := some .int }, accessFlags := 9, code := some k13c1 }
/-- java/lang/Math -/
def k13 : Class := { plain "java/lang/Math" (some 0) with
  accessFlags := 49
  interfaces := #[]
  cf := some (fileOf pool13 1 #[.nestMembers #[98]] #[{ accessFlags := 2, nameIndex := 7, descriptorIndex := 8, attributes := #[] }, { accessFlags := 9, nameIndex := 201, descriptorIndex := 335, attributes := #[] }] 49 4 #[] #[{ accessFlags := 25, nameIndex := 354, descriptorIndex := 339, attributes := #[] }, { accessFlags := 25, nameIndex := 358, descriptorIndex := 339, attributes := #[] }, { accessFlags := 25, nameIndex := 361, descriptorIndex := 339, attributes := #[] }, { accessFlags := 26, nameIndex := 364, descriptorIndex := 339, attributes := #[] }, { accessFlags := 26, nameIndex := 365, descriptorIndex := 339, attributes := #[] }, { accessFlags := 26, nameIndex := 172, descriptorIndex := 173, attributes := #[] }, { accessFlags := 26, nameIndex := 176, descriptorIndex := 173, attributes := #[] }, { accessFlags := 8, nameIndex := 344, descriptorIndex := 339, attributes := #[] }, { accessFlags := 8, nameIndex := 338, descriptorIndex := 339, attributes := #[] }, { accessFlags := 4120, nameIndex := 245, descriptorIndex := 246, attributes := #[] }])
  fields := #[{ name := "E", type := .double, accessFlags := 25, slot := 0, constantValue := 0 }, { name := "PI", type := .double, accessFlags := 25, slot := 1, constantValue := 0 }, { name := "TAU", type := .double, accessFlags := 25, slot := 2, constantValue := 0 }, { name := "DEGREES_TO_RADIANS", type := .double, accessFlags := 26, slot := 3, constantValue := 0 }, { name := "RADIANS_TO_DEGREES", type := .double, accessFlags := 26, slot := 4, constantValue := 0 }, { name := "negativeZeroFloatBits", type := .long, accessFlags := 26, slot := 5, constantValue := 0 }, { name := "negativeZeroDoubleBits", type := .long, accessFlags := 26, slot := 6, constantValue := 0 }, { name := "twoToTheDoubleScaleUp", type := .double, accessFlags := 8, slot := 7, constantValue := 0 }, { name := "twoToTheDoubleScaleDown", type := .double, accessFlags := 8, slot := 8, constantValue := 0 }, { name := "$assertionsDisabled", type := .boolean, accessFlags := 4120, slot := 9, constantValue := 0 }]
  methods := #[k13m0, k13m1]
  instanceTypes := #[]
  staticTypes := #[.double, .double, .double, .double, .double, .long, .long, .double, .double, .boolean]
  resolved := Array.replicate 460 none
  statics := none }

def pool14 : Array CpInfo := pool [(2, .class_ 4), (1, u "java/lang/Object"), (0, u "<init>"), (0, u "()V"), (1, .class_ 10), (1, u "java/lang/System"), (0, u "allowSecurityManager"), (0, u "I"), (16, u "cons"), (0, u "Ljava/io/Console;"), (77, .class_ 110), (1, u "java/lang/System$CallersHolder"), (43, u "initialErrStream"), (0, u "Ljava/io/PrintStream;"), (19, u "security"), (0, u "Ljava/lang/SecurityManager;"), (31, .class_ 209), (0, u "java/lang/System$1"), (7, u "props"), (0, u "Ljava/util/Properties;"), (2, u "lineSeparator"), (0, u "Ljava/lang/String;"), (96, .class_ 321), (1, u "java/lang/System$LoggerFinder"), (5, .class_ 328), (0, u "java/lang/System$Logger"), (67, u "err"), (2, u "out"), (91, u "notSupportedJnuEncoding"), (15, u "in"), (17, u "initialIn"), (0, u "Ljava/io/InputStream;"), (35, u "bootLayer"), (0, u "Ljava/lang/ModuleLayer;"), (99, .class_ 664), (0, u "java/lang/System$2"), (9, u "NEVER"), (2, u "MAYBE"), (49, u "arraycopy"), (0, u "(Ljava/lang/Object;ILjava/lang/Object;II)V"), (72, .class_ 802), (0, u "java/lang/System$Logger$Level")] 31

def k14m0 : Method := { name := "<init>", desc := "()V", sig := { parameters := [], returnType := none }, accessFlags := 2, code := none }
def k14m1 : Method := { name := "arraycopy", desc := "(Ljava/lang/Object;ILjava/lang/Object;II)V", sig := { parameters := [(.object "java/lang/Object"), .int, (.object "java/lang/Object"), .int, .int], returnType := none }, accessFlags := 265, code := none }
/-- java/lang/System -/
def k14 : Class := { plain "java/lang/System" (some 0) with
  accessFlags := 49
  interfaces := #[]
  cf := some (fileOf pool14 8 #[.nestMembers #[319, 327, 801, 108, 663, 208]] #[{ accessFlags := 2, nameIndex := 5, descriptorIndex := 6, attributes := #[] }, { accessFlags := 265, nameIndex := 727, descriptorIndex := 728, attributes := #[] }] 49 2 #[] #[{ accessFlags := 25, nameIndex := 507, descriptorIndex := 526, attributes := #[] }, { accessFlags := 25, nameIndex := 399, descriptorIndex := 155, attributes := #[] }, { accessFlags := 25, nameIndex := 396, descriptorIndex := 155, attributes := #[] }, { accessFlags := 10, nameIndex := 525, descriptorIndex := 526, attributes := #[] }, { accessFlags := 26, nameIndex := 674, descriptorIndex := 12, attributes := #[] }, { accessFlags := 26, nameIndex := 677, descriptorIndex := 12, attributes := #[] }, { accessFlags := 10, nameIndex := 11, descriptorIndex := 12, attributes := #[] }, { accessFlags := 74, nameIndex := 175, descriptorIndex := 176, attributes := #[] }, { accessFlags := 10, nameIndex := 491, descriptorIndex := 222, attributes := #[] }, { accessFlags := 74, nameIndex := 29, descriptorIndex := 30, attributes := #[] }, { accessFlags := 74, nameIndex := 154, descriptorIndex := 155, attributes := #[] }, { accessFlags := 10, nameIndex := 217, descriptorIndex := 218, attributes := #[] }, { accessFlags := 10, nameIndex := 221, descriptorIndex := 222, attributes := #[] }, { accessFlags := 8, nameIndex := 562, descriptorIndex := 563, attributes := #[] }])
  fields := #[{ name := "in", type := (.object "java/io/InputStream"), accessFlags := 25, slot := 0, constantValue := 0 }, { name := "out", type := (.object "java/io/PrintStream"), accessFlags := 25, slot := 1, constantValue := 0 }, { name := "err", type := (.object "java/io/PrintStream"), accessFlags := 25, slot := 2, constantValue := 0 }, { name := "initialIn", type := (.object "java/io/InputStream"), accessFlags := 10, slot := 3, constantValue := 0 }, { name := "NEVER", type := .int, accessFlags := 26, slot := 4, constantValue := 0 }, { name := "MAYBE", type := .int, accessFlags := 26, slot := 5, constantValue := 0 }, { name := "allowSecurityManager", type := .int, accessFlags := 10, slot := 6, constantValue := 0 }, { name := "security", type := (.object "java/lang/SecurityManager"), accessFlags := 74, slot := 7, constantValue := 0 }, { name := "notSupportedJnuEncoding", type := (.object "java/lang/String"), accessFlags := 10, slot := 8, constantValue := 0 }, { name := "cons", type := (.object "java/io/Console"), accessFlags := 74, slot := 9, constantValue := 0 }, { name := "initialErrStream", type := (.object "java/io/PrintStream"), accessFlags := 74, slot := 10, constantValue := 0 }, { name := "props", type := (.object "java/util/Properties"), accessFlags := 10, slot := 11, constantValue := 0 }, { name := "lineSeparator", type := (.object "java/lang/String"), accessFlags := 10, slot := 12, constantValue := 0 }, { name := "bootLayer", type := (.object "java/lang/ModuleLayer"), accessFlags := 8, slot := 13, constantValue := 0 }]
  methods := #[k14m0, k14m1]
  instanceTypes := #[]
  staticTypes := #[(.object "java/io/InputStream"), (.object "java/io/PrintStream"), (.object "java/io/PrintStream"), (.object "java/io/InputStream"), .int, .int, .int, (.object "java/lang/SecurityManager"), (.object "java/lang/String"), (.object "java/io/Console"), (.object "java/io/PrintStream"), (.object "java/util/Properties"), (.object "java/lang/String"), (.object "java/lang/ModuleLayer")]
  resolved := Array.replicate 834 none
  statics := none }

def pool15 : Array CpInfo := pool [(9, u "<init>"), (6, .class_ 18), (1, u "java/lang/Object"), (0, u "()V"), (1, .class_ 23), (1, u "jdk/internal/util/ArraysSupport"), (0, u "LOG2_ARRAY_LONG_INDEX_SCALE"), (0, u "I"), (2, u "U"), (0, u "Ljdk/internal/misc/Unsafe;"), (8, u "BIG_ENDIAN"), (0, u "Z"), (8, u "LOG2_BYTE_BIT_SIZE"), (4, u "LOG2_ARRAY_INT_INDEX_SCALE"), (54, u "JLA"), (0, u "Ljdk/internal/access/JavaLangAccess;"), (11, u "LOG2_ARRAY_BOOLEAN_INDEX_SCALE"), (9, u "LOG2_ARRAY_BYTE_INDEX_SCALE"), (5, u "LOG2_ARRAY_CHAR_INDEX_SCALE"), (5, u "LOG2_ARRAY_SHORT_INDEX_SCALE"), (18, u "LOG2_ARRAY_FLOAT_INDEX_SCALE"), (24, u "LOG2_ARRAY_DOUBLE_INDEX_SCALE"), (89, u "T_BOOLEAN"), (2, u "T_CHAR"), (1, u "T_FLOAT"), (1, u "T_DOUBLE"), (1, u "T_BYTE"), (1, u "T_SHORT"), (1, u "T_INT"), (1, u "T_LONG"), (1, u "SOFT_MAX_ARRAY_LENGTH")] 83

def k15m0 : Method := { name := "<init>", desc := "()V", sig := { parameters := [], returnType := none }, accessFlags := 2, code := none }
/-- jdk/internal/util/ArraysSupport -/
def k15 : Class := { plain "jdk/internal/util/ArraysSupport" (some 0) with
  accessFlags := 33
  interfaces := #[]
  cf := some (fileOf pool15 21 #[] #[{ accessFlags := 2, nameIndex := 9, descriptorIndex := 19, attributes := #[] }] 33 16 #[] #[{ accessFlags := 24, nameIndex := 28, descriptorIndex := 29, attributes := #[] }, { accessFlags := 26, nameIndex := 38, descriptorIndex := 39, attributes := #[] }, { accessFlags := 25, nameIndex := 121, descriptorIndex := 25, attributes := #[] }, { accessFlags := 25, nameIndex := 131, descriptorIndex := 25, attributes := #[] }, { accessFlags := 25, nameIndex := 137, descriptorIndex := 25, attributes := #[] }, { accessFlags := 25, nameIndex := 143, descriptorIndex := 25, attributes := #[] }, { accessFlags := 25, nameIndex := 53, descriptorIndex := 25, attributes := #[] }, { accessFlags := 25, nameIndex := 24, descriptorIndex := 25, attributes := #[] }, { accessFlags := 25, nameIndex := 162, descriptorIndex := 25, attributes := #[] }, { accessFlags := 25, nameIndex := 187, descriptorIndex := 25, attributes := #[] }, { accessFlags := 26, nameIndex := 48, descriptorIndex := 25, attributes := #[] }, { accessFlags := 25, nameIndex := 277, descriptorIndex := 25, attributes := #[] }, { accessFlags := 25, nameIndex := 280, descriptorIndex := 25, attributes := #[] }, { accessFlags := 25, nameIndex := 282, descriptorIndex := 25, attributes := #[] }, { accessFlags := 25, nameIndex := 284, descriptorIndex := 25, attributes := #[] }, { accessFlags := 25, nameIndex := 286, descriptorIndex := 25, attributes := #[] }, { accessFlags := 25, nameIndex := 288, descriptorIndex := 25, attributes := #[] }, { accessFlags := 25, nameIndex := 290, descriptorIndex := 25, attributes := #[] }, { accessFlags := 25, nameIndex := 292, descriptorIndex := 25, attributes := #[] }, { accessFlags := 26, nameIndex := 108, descriptorIndex := 109, attributes := #[] }, { accessFlags := 25, nameIndex := 294, descriptorIndex := 25, attributes := #[] }])
  fields := #[{ name := "U", type := (.object "jdk/internal/misc/Unsafe"), accessFlags := 24, slot := 0, constantValue := 0 }, { name := "BIG_ENDIAN", type := .boolean, accessFlags := 26, slot := 1, constantValue := 0 }, { name := "LOG2_ARRAY_BOOLEAN_INDEX_SCALE", type := .int, accessFlags := 25, slot := 2, constantValue := 0 }, { name := "LOG2_ARRAY_BYTE_INDEX_SCALE", type := .int, accessFlags := 25, slot := 3, constantValue := 0 }, { name := "LOG2_ARRAY_CHAR_INDEX_SCALE", type := .int, accessFlags := 25, slot := 4, constantValue := 0 }, { name := "LOG2_ARRAY_SHORT_INDEX_SCALE", type := .int, accessFlags := 25, slot := 5, constantValue := 0 }, { name := "LOG2_ARRAY_INT_INDEX_SCALE", type := .int, accessFlags := 25, slot := 6, constantValue := 0 }, { name := "LOG2_ARRAY_LONG_INDEX_SCALE", type := .int, accessFlags := 25, slot := 7, constantValue := 0 }, { name := "LOG2_ARRAY_FLOAT_INDEX_SCALE", type := .int, accessFlags := 25, slot := 8, constantValue := 0 }, { name := "LOG2_ARRAY_DOUBLE_INDEX_SCALE", type := .int, accessFlags := 25, slot := 9, constantValue := 0 }, { name := "LOG2_BYTE_BIT_SIZE", type := .int, accessFlags := 26, slot := 10, constantValue := 0 }, { name := "T_BOOLEAN", type := .int, accessFlags := 25, slot := 11, constantValue := 0 }, { name := "T_CHAR", type := .int, accessFlags := 25, slot := 12, constantValue := 0 }, { name := "T_FLOAT", type := .int, accessFlags := 25, slot := 13, constantValue := 0 }, { name := "T_DOUBLE", type := .int, accessFlags := 25, slot := 14, constantValue := 0 }, { name := "T_BYTE", type := .int, accessFlags := 25, slot := 15, constantValue := 0 }, { name := "T_SHORT", type := .int, accessFlags := 25, slot := 16, constantValue := 0 }, { name := "T_INT", type := .int, accessFlags := 25, slot := 17, constantValue := 0 }, { name := "T_LONG", type := .int, accessFlags := 25, slot := 18, constantValue := 0 }, { name := "JLA", type := (.object "jdk/internal/access/JavaLangAccess"), accessFlags := 26, slot := 19, constantValue := 0 }, { name := "SOFT_MAX_ARRAY_LENGTH", type := .int, accessFlags := 25, slot := 20, constantValue := 0 }]
  methods := #[k15m0]
  instanceTypes := #[]
  staticTypes := #[(.object "jdk/internal/misc/Unsafe"), .boolean, .int, .int, .int, .int, .int, .int, .int, .int, .int, .int, .int, .int, .int, .int, .int, .int, .int, (.object "jdk/internal/access/JavaLangAccess"), .int]
  resolved := Array.replicate 378 none
  statics := none }

def pool16 : Array CpInfo := pool [(1, u "java/lang/Cloneable"), (0, .class_ 1), (0, u "java/lang/Object"), (0, .class_ 3)] 3

/-- java/lang/Cloneable -/
def k16 : Class := { plain "java/lang/Cloneable" (some 0) with
  accessFlags := 1537
  interfaces := #[]
  cf := some (fileOf pool16 2 #[] #[] 1537 4 #[] #[])
  fields := #[]
  methods := #[]
  instanceTypes := #[]
  staticTypes := #[]
  resolved := Array.replicate 8 none
  statics := none }

/-- the primitive byte -/
def k17 : Class := { plain "byte" none with kind := .primitive 'B', accessFlags := 0x411 }
/-- [B -/
def k18 : Class := { plain "[B" (some 0) with kind := .array 17 .byte, interfaces := #[16, 2], accessFlags := 1041 }

/-- the primitive char -/
def k19 : Class := { plain "char" none with kind := .primitive 'C', accessFlags := 0x411 }
/-- [C -/
def k20 : Class := { plain "[C" (some 0) with kind := .array 19 .char, interfaces := #[16, 2], accessFlags := 1041 }

def heap : Heap := #[{ cls := 7, slots := #[.long 0, .int 1, .null, .int 0, .null, .int 0, .int 0], vm := .statics 7 },
  { cls := 11, slots := #[.null, .null, .null], vm := .statics 11 }]
def classes : Array Class := #[k0, k1, k2, k3, k4, k5, k6, k7, k8, k9, k10, k11, k12, k13, k14, k15, k16, k17, k18, k19, k20]
def interned : List (Array UInt16 × Addr) := []
def slotsUsed : Nat := 10
def theMethod : MethodId := ⟨1, 4⟩
def args0 : Array Value := #[.int 5, .int 5, .int 5]
def aboutOver (below : List Frame) : State where
  vm := { classes := classes, interned := interned.toArray }
  heap := heap
  slotsUsed := slotsUsed
  threads := #[{ frames := .invoking theMethod args0 :: below }]
def below0 : List Frame := [.native { method := ⟨0, 0⟩, args := #[] }]
def about1 : State := aboutOver below0
def p0 : Program := .bare "" "" ""
def e0 : Env := launch0.env 0 0 0
theorem w_frames : about1.frames = Frame.invoking theMethod args0 :: below0 := rfl
set_option maxRecDepth 65536 in
theorem w_args : argsFit about1.vm theMethod args0 = true := by decide +kernel
set_option maxRecDepth 65536 in
theorem w_heap : heapFits about1 = true := by decide +kernel
set_option maxRecDepth 65536 in
theorem w_runnable : about1.curStatus? = some .runnable := by decide +kernel
set_option maxRecDepth 65536 in
theorem w_alone : about1.alone = true := by decide +kernel
set_option maxRecDepth 65536 in
theorem w_named : about1.methodNamed? x = some theMethod := by decide +kernel
set_option maxRecDepth 65536 in
theorem w_hears : about1.hears theMethod below0 = true := by decide +kernel
set_option maxRecDepth 65536 in
theorem w_ripe : about1.ripe theMethod args0 below0 = true := by decide +kernel
theorem w_running : about1.status = .running := rfl
set_option maxRecDepth 65536 in
theorem w_room : about1.hasRoom e0.platform room_1 = true :=
  launch0.hasRoom_least _ room_1 (by decide +kernel) (by decide +kernel) (by decide +kernel) (by decide +kernel) (by decide +kernel) (by decide +kernel)
theorem allAtoms_all (ts : List Jvm.Cond) (a : Array Jvm.Value) (st : Jvm.State) : (allAtoms ts).before a st = ts.all (fun c => c.before a st) := by
  induction ts with
  | nil => rfl
  | cons c t ih =>
    show (Jvm.Cond.and c (allAtoms t)).before a st = _
    rw [Jvm.Cond.before_and, ih, List.all_cons]
def words1 : List Jvm.Cond := Jvm.Cond.code x code maxLocals ret :: tables_1
/-- a 'code' word, met by the world's own term for the bytes: nothing is compared byte by byte -/
theorem code_word {y : MethodName} {bytes : ByteArray} {mx : Nat} {rt : Option FieldType} {a : Array Value} {s : State} {m : MethodId} {meth : Method} {c : Code} (h1 : s.methodNamed? y = some m) (h2 : s.vm.method? m = some meth) (h3 : meth.code = some c) (h4 : c.code = bytes)
    (h5 : (c.maxLocals == mx && c.exceptionTable.isEmpty && decide (c.maxStack ≤ mostOperands) && decide (meth.sig.returnType = rt) && !meth.locks && decide (parseMethodDescriptor y.desc = some meth.sig)) = true) : (Jvm.Cond.code y bytes mx rt).before a s = true := by
  simp only [Bool.and_eq_true, beq_iff_eq, Bool.not_eq_true', decide_eq_true_eq] at h5
  obtain ⟨⟨⟨⟨⟨g1, g2⟩, g3⟩, g4⟩, g5⟩, g6⟩ := h5
  simp [Cond.before, Cond.holds, Cond.value, h1, h2, h3, h4, g1, g2, g3, g4, g5, g6]
def isCode : Jvm.Cond → Bool
  | .code _ _ _ _ => true
  | _ => false
theorem all_split {L : List Jvm.Cond} {P : Jvm.Cond → Bool} (h1 : L.all (fun c => isCode c || P c) = true) (h2 : ∀ c ∈ L.filter isCode, P c = true) : L.all P = true := by
  refine List.all_eq_true.mpr fun c hc => ?_
  have h := List.all_eq_true.mp h1 c hc
  rcases Bool.eq_false_or_eq_true (isCode c) with hi | hi
  · exact h2 c (List.mem_filter.mpr ⟨hc, hi⟩)
  · simpa [hi] using h
set_option maxRecDepth 65536 in
theorem w_c0 : (Jvm.Cond.code x code maxLocals ret).before args0 about1 = true := code_word (m := ⟨1, 4⟩) (meth := k1m4) (c := k1c4) (by decide +kernel) rfl rfl rfl (by decide +kernel)
set_option maxRecDepth 65536 in
theorem w_c1 : (Jvm.Cond.code ({ cls := "com/example/hollow_crown/hollowcrown/instance/InstanceIdIpOfPinLaw", name := "draw", desc := "(I)C" } : Jvm.MethodName) method_2_code (2 : Nat) (Option.some Jvm.ClassFile.FieldType.char)).before args0 about1 = true := code_word (m := ⟨1, 1⟩) (meth := k1m1) (c := k1c1) (by decide +kernel) rfl rfl rfl (by decide +kernel)
set_option maxRecDepth 65536 in
theorem w_c2 : (Jvm.Cond.code ({ cls := "com/example/hollow_crown/hollowcrown/instance/InstanceIdIpOfPinLaw", name := "mk", desc := "(I[C)Ljava/lang/String;" } : Jvm.MethodName) method_3_code (2 : Nat) (Option.some (Jvm.ClassFile.FieldType.object "java/lang/String"))).before args0 about1 = true := code_word (m := ⟨1, 2⟩) (meth := k1m2) (c := k1c2) (by decide +kernel) rfl rfl rfl (by decide +kernel)
set_option maxRecDepth 65536 in
theorem w_c3 : (Jvm.Cond.code ({ cls := "java/lang/String", name := "<init>", desc := "([C)V" } : Jvm.MethodName) jdk_42_method_3_code (2 : Nat) (Option.none : Option Jvm.ClassFile.FieldType)).before args0 about1 = true := code_word (m := ⟨7, 1⟩) (meth := k7m1) (c := k7c1) (by decide +kernel) rfl rfl rfl (by decide +kernel)
set_option maxRecDepth 65536 in
theorem w_c4 : (Jvm.Cond.code ({ cls := "java/lang/String", name := "<init>", desc := "([CIILjava/lang/Void;)V" } : Jvm.MethodName) jdk_42_method_149_code (6 : Nat) (Option.none : Option Jvm.ClassFile.FieldType)).before args0 about1 = true := code_word (m := ⟨7, 6⟩) (meth := k7m6) (c := k7c6) (by decide +kernel) rfl rfl rfl (by decide +kernel)
set_option maxRecDepth 65536 in
theorem w_c5 : (Jvm.Cond.code ({ cls := "java/lang/Object", name := "<init>", desc := "()V" } : Jvm.MethodName) object_method_1_code (1 : Nat) (Option.none : Option Jvm.ClassFile.FieldType)).before args0 about1 = true := code_word (m := ⟨0, 0⟩) (meth := k0m0) (c := k0c0) (by decide +kernel) rfl rfl rfl (by decide +kernel)
set_option maxRecDepth 65536 in
theorem w_c6 : (Jvm.Cond.code ({ cls := "java/lang/StringUTF16", name := "compress", desc := "([CII)[B" } : Jvm.MethodName) jdk_52_method_16_code (6 : Nat) (Option.some (Jvm.ClassFile.FieldType.array Jvm.ClassFile.FieldType.byte))).before args0 about1 = true := code_word (m := ⟨8, 2⟩) (meth := k8m2) (c := k8c2) (by decide +kernel) rfl rfl rfl (by decide +kernel)
set_option maxRecDepth 65536 in
theorem w_c7 : (Jvm.Cond.code ({ cls := "java/lang/StringUTF16", name := "compress", desc := "([CI[BII)I" } : Jvm.MethodName) jdk_52_method_21_code (7 : Nat) (Option.some Jvm.ClassFile.FieldType.int)).before args0 about1 = true := code_word (m := ⟨8, 3⟩) (meth := k8m3) (c := k8c3) (by decide +kernel) rfl rfl rfl (by decide +kernel)
set_option maxRecDepth 65536 in
theorem w_c8 : (Jvm.Cond.code ({ cls := "java/lang/StringUTF16", name := "coderFromArrayLen", desc := "([BI)B" } : Jvm.MethodName) jdk_52_method_15_code (2 : Nat) (Option.some Jvm.ClassFile.FieldType.byte)).before args0 about1 = true := code_word (m := ⟨8, 1⟩) (meth := k8m1) (c := k8c1) (by decide +kernel) rfl rfl rfl (by decide +kernel)
set_option maxRecDepth 65536 in
theorem w_c9 : (Jvm.Cond.code ({ cls := "com/example/hollow_crown/hollowcrown/instance/InstanceIdIpOfPinLaw", name := "sepAt", desc := "([CII)Z" } : Jvm.MethodName) method_4_code (3 : Nat) (Option.some Jvm.ClassFile.FieldType.boolean)).before args0 about1 = true := code_word (m := ⟨1, 3⟩) (meth := k1m3) (c := k1c3) (by decide +kernel) rfl rfl rfl (by decide +kernel)
set_option maxRecDepth 65536 in
theorem w_c10 : (Jvm.Cond.code ({ cls := "com/example/hollow_crown/hollowcrown/instance/InstanceId", name := "ipOf", desc := "(Ljava/lang/String;)Ljava/lang/String;" } : Jvm.MethodName) prog_5_method_4_code (2 : Nat) (Option.some (Jvm.ClassFile.FieldType.object "java/lang/String"))).before args0 about1 = true := code_word (m := ⟨9, 0⟩) (meth := k9m0) (c := k9c0) (by decide +kernel) rfl rfl rfl (by decide +kernel)
set_option maxRecDepth 65536 in
theorem w_c11 : (Jvm.Cond.code ({ cls := "java/lang/String", name := "indexOf", desc := "(Ljava/lang/String;)I" } : Jvm.MethodName) jdk_42_method_84_code (3 : Nat) (Option.some Jvm.ClassFile.FieldType.int)).before args0 about1 = true := code_word (m := ⟨7, 4⟩) (meth := k7m4) (c := k7c4) (by decide +kernel) rfl rfl rfl (by decide +kernel)
set_option maxRecDepth 65536 in
theorem w_c12 : (Jvm.Cond.code ({ cls := "java/lang/String", name := "coder", desc := "()B" } : Jvm.MethodName) jdk_42_method_152_code (1 : Nat) (Option.some Jvm.ClassFile.FieldType.byte)).before args0 about1 = true := code_word (m := ⟨7, 8⟩) (meth := k7m8) (c := k7c8) (by decide +kernel) rfl rfl rfl (by decide +kernel)
set_option maxRecDepth 65536 in
theorem w_c13 : (Jvm.Cond.code ({ cls := "java/lang/String", name := "isLatin1", desc := "()Z" } : Jvm.MethodName) jdk_42_method_154_code (1 : Nat) (Option.some Jvm.ClassFile.FieldType.boolean)).before args0 about1 = true := code_word (m := ⟨7, 9⟩) (meth := k7m9) (c := k7c9) (by decide +kernel) rfl rfl rfl (by decide +kernel)
set_option maxRecDepth 65536 in
theorem w_c14 : (Jvm.Cond.code ({ cls := "java/lang/StringLatin1", name := "indexOf", desc := "([B[B)I" } : Jvm.MethodName) jdk_43_method_24_code (2 : Nat) (Option.some Jvm.ClassFile.FieldType.int)).before args0 about1 = true := code_word (m := ⟨10, 2⟩) (meth := k10m2) (c := k10c2) (by decide +kernel) rfl rfl rfl (by decide +kernel)
set_option maxRecDepth 65536 in
theorem w_c15 : (Jvm.Cond.code ({ cls := "java/lang/StringLatin1", name := "indexOf", desc := "([BI[BII)I" } : Jvm.MethodName) jdk_43_method_25_code (11 : Nat) (Option.some Jvm.ClassFile.FieldType.int)).before args0 about1 = true := code_word (m := ⟨10, 3⟩) (meth := k10m3) (c := k10c3) (by decide +kernel) rfl rfl rfl (by decide +kernel)
set_option maxRecDepth 65536 in
theorem w_c16 : (Jvm.Cond.code ({ cls := "java/lang/String", name := "equals", desc := "(Ljava/lang/Object;)Z" } : Jvm.MethodName) jdk_42_method_66_code (3 : Nat) (Option.some Jvm.ClassFile.FieldType.boolean)).before args0 about1 = true := code_word (m := ⟨7, 3⟩) (meth := k7m3) (c := k7c3) (by decide +kernel) rfl rfl rfl (by decide +kernel)
set_option maxRecDepth 65536 in
theorem w_c17 : (Jvm.Cond.code ({ cls := "java/lang/StringLatin1", name := "equals", desc := "([B[B)Z" } : Jvm.MethodName) jdk_43_method_13_code (3 : Nat) (Option.some Jvm.ClassFile.FieldType.boolean)).before args0 about1 = true := code_word (m := ⟨10, 1⟩) (meth := k10m1) (c := k10c1) (by decide +kernel) rfl rfl rfl (by decide +kernel)
set_option maxRecDepth 65536 in
theorem w_c18 : (Jvm.Cond.code ({ cls := "java/lang/String", name := "substring", desc := "(II)Ljava/lang/String;" } : Jvm.MethodName) jdk_42_method_92_code (5 : Nat) (Option.some (Jvm.ClassFile.FieldType.object "java/lang/String"))).before args0 about1 = true := code_word (m := ⟨7, 5⟩) (meth := k7m5) (c := k7c5) (by decide +kernel) rfl rfl rfl (by decide +kernel)
set_option maxRecDepth 65536 in
theorem w_c19 : (Jvm.Cond.code ({ cls := "java/lang/String", name := "length", desc := "()I" } : Jvm.MethodName) jdk_42_method_54_code (1 : Nat) (Option.some Jvm.ClassFile.FieldType.int)).before args0 about1 = true := code_word (m := ⟨7, 2⟩) (meth := k7m2) (c := k7c2) (by decide +kernel) rfl rfl rfl (by decide +kernel)
set_option maxRecDepth 65536 in
theorem w_c20 : (Jvm.Cond.code ({ cls := "java/lang/String", name := "checkBoundsBeginEnd", desc := "(III)V" } : Jvm.MethodName) jdk_42_method_158_code (3 : Nat) (Option.none : Option Jvm.ClassFile.FieldType)).before args0 about1 = true := code_word (m := ⟨7, 10⟩) (meth := k7m10) (c := k7c10) (by decide +kernel) rfl rfl rfl (by decide +kernel)
set_option maxRecDepth 65536 in
theorem w_c21 : (Jvm.Cond.code ({ cls := "jdk/internal/util/Preconditions", name := "checkFromToIndex", desc := "(IIILjava/util/function/BiFunction;)I" } : Jvm.MethodName) jdk_41_method_12_code (4 : Nat) (Option.some Jvm.ClassFile.FieldType.int)).before args0 about1 = true := code_word (m := ⟨11, 1⟩) (meth := k11m1) (c := k11c1) (by decide +kernel) rfl rfl rfl (by decide +kernel)
set_option maxRecDepth 65536 in
theorem w_c22 : (Jvm.Cond.code ({ cls := "java/lang/StringLatin1", name := "newString", desc := "([BII)Ljava/lang/String;" } : Jvm.MethodName) jdk_43_method_47_code (3 : Nat) (Option.some (Jvm.ClassFile.FieldType.object "java/lang/String"))).before args0 about1 = true := code_word (m := ⟨10, 4⟩) (meth := k10m4) (c := k10c4) (by decide +kernel) rfl rfl rfl (by decide +kernel)
set_option maxRecDepth 65536 in
theorem w_c23 : (Jvm.Cond.code ({ cls := "java/util/Arrays", name := "copyOfRange", desc := "([BII)[B" } : Jvm.MethodName) jdk_65_method_132_code (3 : Nat) (Option.some (Jvm.ClassFile.FieldType.array Jvm.ClassFile.FieldType.byte))).before args0 about1 = true := code_word (m := ⟨12, 2⟩) (meth := k12m2) (c := k12c2) (by decide +kernel) rfl rfl rfl (by decide +kernel)
set_option maxRecDepth 65536 in
theorem w_c24 : (Jvm.Cond.code ({ cls := "java/util/Arrays", name := "copyOfRangeByte", desc := "([BII)[B" } : Jvm.MethodName) jdk_65_method_133_code (5 : Nat) (Option.some (Jvm.ClassFile.FieldType.array Jvm.ClassFile.FieldType.byte))).before args0 about1 = true := code_word (m := ⟨12, 3⟩) (meth := k12m3) (c := k12c3) (by decide +kernel) rfl rfl rfl (by decide +kernel)
set_option maxRecDepth 65536 in
theorem w_c25 : (Jvm.Cond.code ({ cls := "java/util/Arrays", name := "checkLength", desc := "(II)V" } : Jvm.MethodName) jdk_65_method_131_code (2 : Nat) (Option.none : Option Jvm.ClassFile.FieldType)).before args0 about1 = true := code_word (m := ⟨12, 1⟩) (meth := k12m1) (c := k12c1) (by decide +kernel) rfl rfl rfl (by decide +kernel)
set_option maxRecDepth 65536 in
theorem w_c26 : (Jvm.Cond.code ({ cls := "java/lang/Math", name := "min", desc := "(II)I" } : Jvm.MethodName) jdk_29_method_69_code (2 : Nat) (Option.some Jvm.ClassFile.FieldType.int)).before args0 about1 = true := code_word (m := ⟨13, 1⟩) (meth := k13m1) (c := k13c1) (by decide +kernel) rfl rfl rfl (by decide +kernel)
set_option maxRecDepth 65536 in
theorem w_c27 : (Jvm.Cond.code ({ cls := "java/lang/String", name := "<init>", desc := "([BB)V" } : Jvm.MethodName) jdk_42_method_151_code (3 : Nat) (Option.none : Option Jvm.ClassFile.FieldType)).before args0 about1 = true := code_word (m := ⟨7, 7⟩) (meth := k7m7) (c := k7c7) (by decide +kernel) rfl rfl rfl (by decide +kernel)
def codes1 : List Jvm.Cond := [Jvm.Cond.code x code maxLocals ret, Jvm.Cond.code ({ cls := "com/example/hollow_crown/hollowcrown/instance/InstanceIdIpOfPinLaw", name := "draw", desc := "(I)C" } : Jvm.MethodName) method_2_code (2 : Nat) (Option.some Jvm.ClassFile.FieldType.char), Jvm.Cond.code ({ cls := "com/example/hollow_crown/hollowcrown/instance/InstanceIdIpOfPinLaw", name := "mk", desc := "(I[C)Ljava/lang/String;" } : Jvm.MethodName) method_3_code (2 : Nat) (Option.some (Jvm.ClassFile.FieldType.object "java/lang/String")), Jvm.Cond.code ({ cls := "java/lang/String", name := "<init>", desc := "([C)V" } : Jvm.MethodName) jdk_42_method_3_code (2 : Nat) (Option.none : Option Jvm.ClassFile.FieldType), Jvm.Cond.code ({ cls := "java/lang/String", name := "<init>", desc := "([CIILjava/lang/Void;)V" } : Jvm.MethodName) jdk_42_method_149_code (6 : Nat) (Option.none : Option Jvm.ClassFile.FieldType), Jvm.Cond.code ({ cls := "java/lang/Object", name := "<init>", desc := "()V" } : Jvm.MethodName) object_method_1_code (1 : Nat) (Option.none : Option Jvm.ClassFile.FieldType), Jvm.Cond.code ({ cls := "java/lang/StringUTF16", name := "compress", desc := "([CII)[B" } : Jvm.MethodName) jdk_52_method_16_code (6 : Nat) (Option.some (Jvm.ClassFile.FieldType.array Jvm.ClassFile.FieldType.byte)), Jvm.Cond.code ({ cls := "java/lang/StringUTF16", name := "compress", desc := "([CI[BII)I" } : Jvm.MethodName) jdk_52_method_21_code (7 : Nat) (Option.some Jvm.ClassFile.FieldType.int), Jvm.Cond.code ({ cls := "java/lang/StringUTF16", name := "coderFromArrayLen", desc := "([BI)B" } : Jvm.MethodName) jdk_52_method_15_code (2 : Nat) (Option.some Jvm.ClassFile.FieldType.byte), Jvm.Cond.code ({ cls := "com/example/hollow_crown/hollowcrown/instance/InstanceIdIpOfPinLaw", name := "sepAt", desc := "([CII)Z" } : Jvm.MethodName) method_4_code (3 : Nat) (Option.some Jvm.ClassFile.FieldType.boolean), Jvm.Cond.code ({ cls := "com/example/hollow_crown/hollowcrown/instance/InstanceId", name := "ipOf", desc := "(Ljava/lang/String;)Ljava/lang/String;" } : Jvm.MethodName) prog_5_method_4_code (2 : Nat) (Option.some (Jvm.ClassFile.FieldType.object "java/lang/String")), Jvm.Cond.code ({ cls := "java/lang/String", name := "indexOf", desc := "(Ljava/lang/String;)I" } : Jvm.MethodName) jdk_42_method_84_code (3 : Nat) (Option.some Jvm.ClassFile.FieldType.int), Jvm.Cond.code ({ cls := "java/lang/String", name := "coder", desc := "()B" } : Jvm.MethodName) jdk_42_method_152_code (1 : Nat) (Option.some Jvm.ClassFile.FieldType.byte), Jvm.Cond.code ({ cls := "java/lang/String", name := "isLatin1", desc := "()Z" } : Jvm.MethodName) jdk_42_method_154_code (1 : Nat) (Option.some Jvm.ClassFile.FieldType.boolean), Jvm.Cond.code ({ cls := "java/lang/StringLatin1", name := "indexOf", desc := "([B[B)I" } : Jvm.MethodName) jdk_43_method_24_code (2 : Nat) (Option.some Jvm.ClassFile.FieldType.int), Jvm.Cond.code ({ cls := "java/lang/StringLatin1", name := "indexOf", desc := "([BI[BII)I" } : Jvm.MethodName) jdk_43_method_25_code (11 : Nat) (Option.some Jvm.ClassFile.FieldType.int), Jvm.Cond.code ({ cls := "java/lang/String", name := "equals", desc := "(Ljava/lang/Object;)Z" } : Jvm.MethodName) jdk_42_method_66_code (3 : Nat) (Option.some Jvm.ClassFile.FieldType.boolean), Jvm.Cond.code ({ cls := "java/lang/StringLatin1", name := "equals", desc := "([B[B)Z" } : Jvm.MethodName) jdk_43_method_13_code (3 : Nat) (Option.some Jvm.ClassFile.FieldType.boolean), Jvm.Cond.code ({ cls := "java/lang/String", name := "substring", desc := "(II)Ljava/lang/String;" } : Jvm.MethodName) jdk_42_method_92_code (5 : Nat) (Option.some (Jvm.ClassFile.FieldType.object "java/lang/String")), Jvm.Cond.code ({ cls := "java/lang/String", name := "length", desc := "()I" } : Jvm.MethodName) jdk_42_method_54_code (1 : Nat) (Option.some Jvm.ClassFile.FieldType.int), Jvm.Cond.code ({ cls := "java/lang/String", name := "checkBoundsBeginEnd", desc := "(III)V" } : Jvm.MethodName) jdk_42_method_158_code (3 : Nat) (Option.none : Option Jvm.ClassFile.FieldType), Jvm.Cond.code ({ cls := "jdk/internal/util/Preconditions", name := "checkFromToIndex", desc := "(IIILjava/util/function/BiFunction;)I" } : Jvm.MethodName) jdk_41_method_12_code (4 : Nat) (Option.some Jvm.ClassFile.FieldType.int), Jvm.Cond.code ({ cls := "java/lang/StringLatin1", name := "newString", desc := "([BII)Ljava/lang/String;" } : Jvm.MethodName) jdk_43_method_47_code (3 : Nat) (Option.some (Jvm.ClassFile.FieldType.object "java/lang/String")), Jvm.Cond.code ({ cls := "java/util/Arrays", name := "copyOfRange", desc := "([BII)[B" } : Jvm.MethodName) jdk_65_method_132_code (3 : Nat) (Option.some (Jvm.ClassFile.FieldType.array Jvm.ClassFile.FieldType.byte)), Jvm.Cond.code ({ cls := "java/util/Arrays", name := "copyOfRangeByte", desc := "([BII)[B" } : Jvm.MethodName) jdk_65_method_133_code (5 : Nat) (Option.some (Jvm.ClassFile.FieldType.array Jvm.ClassFile.FieldType.byte)), Jvm.Cond.code ({ cls := "java/util/Arrays", name := "checkLength", desc := "(II)V" } : Jvm.MethodName) jdk_65_method_131_code (2 : Nat) (Option.none : Option Jvm.ClassFile.FieldType), Jvm.Cond.code ({ cls := "java/lang/Math", name := "min", desc := "(II)I" } : Jvm.MethodName) jdk_29_method_69_code (2 : Nat) (Option.some Jvm.ClassFile.FieldType.int), Jvm.Cond.code ({ cls := "java/lang/String", name := "<init>", desc := "([BB)V" } : Jvm.MethodName) jdk_42_method_151_code (3 : Nat) (Option.none : Option Jvm.ClassFile.FieldType)]
set_option maxRecDepth 65536 in
theorem codes_eq : words1.filter isCode = codes1 := rfl
theorem w_codes : ∀ c ∈ words1.filter isCode, c.before args0 about1 = true := by
  rw [codes_eq]
  intro c hc
  simp only [codes1, List.mem_cons, List.not_mem_nil, or_false] at hc
  rcases hc with rfl | rfl | rfl | rfl | rfl | rfl | rfl | rfl | rfl | rfl | rfl | rfl | rfl | rfl | rfl | rfl | rfl | rfl | rfl | rfl | rfl | rfl | rfl | rfl | rfl | rfl | rfl | rfl
  · exact w_c0
  · exact w_c1
  · exact w_c2
  · exact w_c3
  · exact w_c4
  · exact w_c5
  · exact w_c6
  · exact w_c7
  · exact w_c8
  · exact w_c9
  · exact w_c10
  · exact w_c11
  · exact w_c12
  · exact w_c13
  · exact w_c14
  · exact w_c15
  · exact w_c16
  · exact w_c17
  · exact w_c18
  · exact w_c19
  · exact w_c20
  · exact w_c21
  · exact w_c22
  · exact w_c23
  · exact w_c24
  · exact w_c25
  · exact w_c26
  · exact w_c27
set_option maxRecDepth 65536 in
theorem w_t1 : (words1.take 24).all (fun c => isCode c || c.before args0 about1) = true := by decide +kernel
set_option maxRecDepth 65536 in
theorem w_t2 : ((words1.drop 24).take 24).all (fun c => isCode c || c.before args0 about1) = true := by decide +kernel
set_option maxRecDepth 65536 in
theorem w_t3 : (((words1.drop 24).drop 24).take 24).all (fun c => isCode c || c.before args0 about1) = true := by decide +kernel
set_option maxRecDepth 65536 in
theorem w_t4 : ((((words1.drop 24).drop 24).drop 24).take 24).all (fun c => isCode c || c.before args0 about1) = true := by decide +kernel
set_option maxRecDepth 65536 in
theorem w_t5 : (((((words1.drop 24).drop 24).drop 24).drop 24).take 24).all (fun c => isCode c || c.before args0 about1) = true := by decide +kernel
set_option maxRecDepth 65536 in
theorem w_t6 : (((((words1.drop 24).drop 24).drop 24).drop 24).drop 24).all (fun c => isCode c || c.before args0 about1) = true := by decide +kernel
theorem w_tables : (allAtoms (Jvm.Cond.code x code maxLocals ret :: tables_1)).before args0 about1 = true := by
  rw [allAtoms_all]
  show words1.all (fun c => c.before args0 about1) = true
  refine all_split ?_ w_codes
  rw [← List.take_append_drop 24 words1, List.all_append, w_t1, ← List.take_append_drop 24 (words1.drop 24), List.all_append, w_t2, ← List.take_append_drop 24 ((words1.drop 24).drop 24), List.all_append, w_t3, ← List.take_append_drop 24 (((words1.drop 24).drop 24).drop 24), List.all_append, w_t4, ← List.take_append_drop 24 ((((words1.drop 24).drop 24).drop 24).drop 24), List.all_append, w_t5, w_t6]
  rfl
set_option maxRecDepth 65536 in
theorem w_rest : rest_1_c.before args0 about1 = true := by decide +kernel
set_option maxRecDepth 65536 in
theorem w_case : (Jvm.Cond.and given_1 narrow_1).before args0 about1 = true := by decide +kernel
set_option maxRecDepth 65536 in
theorem w_consts : constsHeld consts_1 about1 := Jvm.Lit.constsHeldB_iff.mp (by decide +kernel)
theorem w_applies : (headSpec (Jvm.Cond.code x code maxLocals ret :: tables_1) room_1).applies x e0.platform about1 = true :=
  (Spec.applies_iff w_frames).mpr ⟨w_running, w_runnable, w_alone, w_named, w_hears, w_ripe, w_room, w_tables⟩
theorem atStart : AtStart classFile x code maxLocals ret World_1 tables_1 room_1 Calls_1 rest_1 Pre_1 launch0 p0 e0 about1 theMethod args0 below0 :=
  ⟨lists_1, trivial, launch0.admits_env _ _ _, launch0.least_env, fairChoices_fair.cas, fairChoices_fair.clock, w_frames, w_args, w_heap, w_applies, ⟨w_consts, trivial⟩, w_rest, w_case⟩
end start1
theorem witness_1 : WitnessClaimed_1 := ⟨start1.p0, start1.e0, start1.about1, start1.theMethod, start1.args0, start1.below0, start1.atStart⟩
end Jvm.Pilot.@@N@@
