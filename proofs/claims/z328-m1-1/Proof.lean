import JvmDerived
import JvmDerived.Pilot.@@N@@Statement
import JvmDerived.Pilot.@@N@@Code
set_option linter.unusedVariables false
set_option linter.unusedSimpArgs false
/- laws to paste: Road.backV, Road.eqW, Road.codOf (cut by pick.py; bodies as the Statement names them) -/
namespace Jvm.Pilot.@@N@@
namespace StrChars
open Jvm Sem ClassFile Op Lib Jvm.Stand Jvm.Free.XT Jvm.Free.ALB Jvm.Free.JM Jvm.Free
open Jvm.Lib.Cold (StaticIs)
/-- a char array whose places are chars -/
def Ch (a : Addr) (A : Cell) (U : State) : Prop := Arr .char a A U ∧ Typed .char A
theorem Ch.mv {a : Addr} {A : Cell} {U U' : State} (h : Ch a A U) (hal : U.vm.Alike U'.vm) (hh : U'.heap = U.heap) : Ch a A U' := ⟨h.1.mv hal hh, h.2⟩
theorem Ch.keep {a : Addr} {A : Cell} {U U' : State} (h : Ch a A U) (hal : U.vm.Alike U'.vm) (hk : U'.heap[a]? = some A) : Ch a A U' := ⟨h.1.keep hal hk, h.2⟩
/-- what place i of a char[]'s cell holds -/
def cv (A : Cell) (i : Nat) : Int32 := match A.slots[i]? with | some (.int x) => x | _ => 0
theorem Ch.get {a : Addr} {A : Cell} {U : State} (h : Ch a A U) {i : Nat} (hi : i < A.slots.size) : A.slots[i]? = some (.int (cv A i)) := by
  have e := Array.getElem?_eq_getElem hi
  have f := h.2 i _ e
  unfold cv; rw [e]
  generalize A.slots[i] = v at f
  cases v <;> simp [fits] at f ⊢
/-- the byte that i2b leaves of a char -/
def lo8 (x : Int32) : Int32 := x.toInt8.toInt32
theorem fits_lo8 (y : Int32) : fits .byte (.int (lo8 y)) = true := by
  have h1 := y.toInt8.le_toInt
  have h2 := y.toInt8.toInt_lt
  simp only [lo8, fits, Bool.and_eq_true, decide_eq_true_eq, Int32.le_iff_toInt_le, Int8.toInt_toInt32, show (-128 : Int32).toInt = -128 from by decide, show (127 : Int32).toInt = 127 from by decide]
  omega
/-- A' is A but that each place j of lo .. hi - 1 holds f j -/
def Laid (A A' : Cell) (lo hi : Nat) (f : Nat → Value) : Prop := A'.cls = A.cls ∧ A'.vm = A.vm ∧ A'.slots.size = A.slots.size ∧ ∀ i, A'.slots[i]? = if lo ≤ i ∧ i < hi then some (f i) else A.slots[i]?
theorem Laid.zero (A : Cell) (lo : Nat) (f : Nat → Value) : Laid A A lo (lo + 0) f := ⟨rfl, rfl, rfl, fun i => by rw [if_neg (by omega)]⟩
theorem Laid.step {A Ak : Cell} {lo k : Nat} {f : Nat → Value} {v : Value} (h : Laid A Ak lo k f) (hlo : lo ≤ k) (hk : k < Ak.slots.size) (hv : v = f k) : Laid A (Ak.setSlot k v) lo (k + 1) f := by
  refine ⟨h.1, h.2.1, by simpa [Cell.setSlot] using h.2.2.1, fun i => ?_⟩
  by_cases e : k = i
  · subst e; rw [Cell.slots_setSlot_self v hk, if_pos (by omega), hv]
  · rw [Cell.slots_setSlot_ne v e, h.2.2.2 i]
    by_cases q : lo ≤ i ∧ i < k
    · rw [if_pos q, if_pos (by omega)]
    · rw [if_neg q, if_neg (by omega)]
def U16 : String := "java/lang/StringUTF16"
namespace Cmp5
def yN : MethodName := ⟨"java/lang/StringUTF16", "compress", "([CI[BII)I"⟩
abbrev yB : ByteArray := jdk_52_method_21_code
theorem d0 : decode yB 0 = .ok (.iconst 0, 1) := by decide +kernel
theorem d1 : decode yB 1 = .ok (.istore 5, 2) := by decide +kernel
theorem d3 : decode yB 3 = .ok (.iload 5, 2) := by decide +kernel
theorem d5 : decode yB 5 = .ok (.iload 4, 2) := by decide +kernel
theorem d7 : decode yB 7 = .ok (.if_icmp (.ge) 37, 3) := by decide +kernel
theorem d10 : decode yB 10 = .ok (.aload_n 0, 1) := by decide +kernel
theorem d11 : decode yB 11 = .ok (.iload_n 1, 1) := by decide +kernel
theorem d12 : decode yB 12 = .ok (.caload, 1) := by decide +kernel
theorem d13 : decode yB 13 = .ok (.istore 6, 2) := by decide +kernel
theorem d15 : decode yB 15 = .ok (.iload 6, 2) := by decide +kernel
theorem d17 : decode yB 17 = .ok (.sipush 255, 3) := by decide +kernel
theorem d20 : decode yB 20 = .ok (.if_icmp (.le) 6, 3) := by decide +kernel
theorem d26 : decode yB 26 = .ok (.aload_n 2, 1) := by decide +kernel
theorem d27 : decode yB 27 = .ok (.iload_n 3, 1) := by decide +kernel
theorem d28 : decode yB 28 = .ok (.iload 6, 2) := by decide +kernel
theorem d30 : decode yB 30 = .ok (.i2b, 1) := by decide +kernel
theorem d31 : decode yB 31 = .ok (.bastore, 1) := by decide +kernel
theorem d32 : decode yB 32 = .ok (.iinc 1 1, 3) := by decide +kernel
theorem d35 : decode yB 35 = .ok (.iinc 3 1, 3) := by decide +kernel
theorem d38 : decode yB 38 = .ok (.iinc 5 1, 3) := by decide +kernel
theorem d41 : decode yB 41 = .ok (.goto (-38), 3) := by decide +kernel
theorem d44 : decode yB 44 = .ok (.iload 4, 2) := by decide +kernel
theorem d46 : decode yB 46 = .ok (.ireturn, 1) := by decide +kernel
def site : List Cond := []
def tab : Cond := tabOf yN yB 7 (some .int) site
def P (b : Addr) (A : Cell) (d : Addr) (B : Cell) (o q len : Nat) (args : Array Value) (s : State) : Prop := args = #[.ref b, .int (Int32.ofNat o), .ref d, .int (Int32.ofNat q), .int (Int32.ofNat len)] ∧ Ch b A s ∧ Arr .byte d B s ∧ b ≠ d ∧ o + len ≤ A.slots.size ∧ q + len ≤ B.slots.size ∧ ∀ i, i < len → ¬ 255 < cv A (o + i)
def E (b : Addr) (A : Cell) (d : Addr) (B : Cell) (o q len : Nat) (r : Option Value) (s u : State) : Prop := r = some (.int (Int32.ofNat len)) ∧ ∃ B', Put d B' s u ∧ Laid B B' q (q + len) (fun j => Value.int (lo8 (cv A (o + (j - q)))))
/-- no char of the range above 255: len; the places written hold each char's low byte -/
theorem law (l : Launch) (b : Addr) (A : Cell) (d : Addr) (B : Cell) (o q len : Nat) : Law l yN 5 5 0 0 yB 7 (some .int) site (P b A d B o q len) (E b A d B o q len) (copyLocs d q len) 0 0 := by
  refine Law.of_walk (plainFor_of_name (by decide +kernel)) (by decide +kernel) (by decide +kernel) (by decide) (fun _ _ h => by rw [h.1]; rfl) (fun _ U U' hal hh h => ⟨h.1, h.2.1.mv hal hh, h.2.2.1.mv hal hh, h.2.2.2⟩) (fun r U U' V V' h1 hal h2 h => ⟨h.1, h.2.elim fun B' q => ⟨B', q.1.mv h1 h2, q.2⟩⟩) ?_
  intro p e s m args below meth c s₁ X0 hexec hbytes hml hret hlk hnm hown hh0 W hP
  obtain ⟨rfl, hA, hB, hne, l1, l2, hp⟩ := hP
  have c1 : Steps p.tables e below (s₁.setTop (entryFrame m #[.ref b, .int (Int32.ofNat o), .ref d, .int (Int32.ofNat q), .int (Int32.ofNat len)] 7)) (s₁.setTop (mkF m 0 #[.val (.ref b), .val (.int (Int32.ofNat o)), .val (.ref d), .val (.int (Int32.ofNat q)), .val (.int (Int32.ofNat len)), .unset, .unset] [])) := entry rfl
  have hA0 := hA.1.mv X0.warmed.alike hh0
  have hB0 := hB.mv X0.warmed.alike hh0
  have a31 := hA.1.2.2.2
  have c2 : Steps p.tables e below (s₁.setTop (entryFrame m #[.ref b, .int (Int32.ofNat o), .ref d, .int (Int32.ofNat q), .int (Int32.ofNat len)] 7)) (s₁.setTop (mkF m 3 #[.val (.ref b), .val (.int (Int32.ofNat o)), .val (.ref d), .val (.int (Int32.ofNat q)), .val (.int (Int32.ofNat len)), .val (.int 0), .unset] [])) := c1.trans (by
    refine iconstV X0.here hexec rfl 0 (hb hbytes d0) (by decide) ?_
    refine XS.istore X0.here hexec rfl (hb hbytes d1) rfl rfl ?_
    exact Steps.refl _)
  have loop : ∀ (r i : Nat), i + r = len → ∀ (z : Slot), (z = .unset ∨ ∃ w, z = .val w ∧ w.category = 1) → ∀ (Tl : State) (Bk : Cell), Stand p l e { frames := 0, locals := 0, cells := 0, slots := 0 } s m #[.ref b, .int (Int32.ofNat o), .ref d, .int (Int32.ofNat q), .int (Int32.ofNat len)] below meth c Tl ([] ++ copyLocs d q i) 0 0 → Put d Bk s₁ Tl → Laid B Bk q (q + i) (fun j => Value.int (lo8 (cv A (o + (j - q))))) →
      Steps p.tables e below (s₁.setTop (entryFrame m #[.ref b, .int (Int32.ofNat o), .ref d, .int (Int32.ofNat q), .int (Int32.ofNat len)] 7)) (Tl.setTop (mkF m 3 #[.val (.ref b), .val (.int (Int32.ofNat (o + i))), .val (.ref d), .val (.int (Int32.ofNat (q + i))), .val (.int (Int32.ofNat len)), .val (.int (Int32.ofNat i)), z] [])) → ∃ (T' : State) (B' : Cell) (z' : Slot), Stand p l e { frames := 0, locals := 0, cells := 0, slots := 0 } s m #[.ref b, .int (Int32.ofNat o), .ref d, .int (Int32.ofNat q), .int (Int32.ofNat len)] below meth c T' ([] ++ copyLocs d q len) 0 0 ∧ Put d B' s₁ T' ∧ Laid B B' q (q + len) (fun j => Value.int (lo8 (cv A (o + (j - q))))) ∧
      Steps p.tables e below (s₁.setTop (entryFrame m #[.ref b, .int (Int32.ofNat o), .ref d, .int (Int32.ofNat q), .int (Int32.ofNat len)] 7)) (T'.setTop (mkF m 3 #[.val (.ref b), .val (.int (Int32.ofNat (o + len))), .val (.ref d), .val (.int (Int32.ofNat (q + len))), .val (.int (Int32.ofNat len)), .val (.int (Int32.ofNat len)), z'] [])) := by
    intro r
    induction r with
    | zero =>
      intro i hi z hz Tl Bk Xl pl fl cl
      have hil : i = len := by omega
      rw [hil] at Xl fl cl
      exact ⟨Tl, Bk, z, Xl, pl, fl, cl⟩
    | succ r ih =>
      intro i hi z hz Tl Bk Xl pl fl cl
      have all := X0.warmed.alike.symm.trans Xl.warmed.alike
      have hAl := hA0.keep all (pl.other hne hA0.1)
      have hBk := hB0.like all pl.1 fl.1 fl.2.1 fl.2.2.1
      have hlt : q + i < Bk.slots.size := by rw [fl.2.2.1]; omega
      have c3 : Steps p.tables e below (s₁.setTop (entryFrame m #[.ref b, .int (Int32.ofNat o), .ref d, .int (Int32.ofNat q), .int (Int32.ofNat len)] 7)) (Tl.setTop (mkF m 12 #[.val (.ref b), .val (.int (Int32.ofNat (o + i))), .val (.ref d), .val (.int (Int32.ofNat (q + i))), .val (.int (Int32.ofNat len)), .val (.int (Int32.ofNat i)), z] [.int (Int32.ofNat (o + i)), .ref b])) := cl.trans (by
        refine XS.iload Xl.here hexec rfl (hb hbytes d3) rfl ?_
        refine XS.iload Xl.here hexec rfl (hb hbytes d5) rfl ?_
        refine XS.icmpNo Xl.here hexec rfl (hb hbytes d7) rfl (ii_ge_f (lt32 (by omega) (by omega))) ?_
        refine XS.aloadN Xl.here hexec rfl (hb hbytes d10) rfl rfl ?_
        refine XS.iloadN Xl.here hexec rfl (hb hbytes d11) rfl ?_
        exact Steps.refl _)
      have c4 : Steps p.tables e below (s₁.setTop (entryFrame m #[.ref b, .int (Int32.ofNat o), .ref d, .int (Int32.ofNat q), .int (Int32.ofNat len)] 7)) (Tl.setTop (mkF m 13 #[.val (.ref b), .val (.int (Int32.ofNat (o + i))), .val (.ref d), .val (.int (Int32.ofNat (q + i))), .val (.int (Int32.ofNat len)), .val (.int (Int32.ofNat i)), z] [.int (cv A (o + i))])) := c3.trans (by
        refine Xl.aget hexec hAl rfl (hA.get (i := o + i) (by omega)) rfl rfl (hb hbytes d12) ?_
        exact Steps.refl _)
      have c5 : Steps p.tables e below (s₁.setTop (entryFrame m #[.ref b, .int (Int32.ofNat o), .ref d, .int (Int32.ofNat q), .int (Int32.ofNat len)] 7)) (Tl.setTop (mkF m 15 #[.val (.ref b), .val (.int (Int32.ofNat (o + i))), .val (.ref d), .val (.int (Int32.ofNat (q + i))), .val (.int (Int32.ofNat len)), .val (.int (Int32.ofNat i)), .val (.int (cv A (o + i)))] [])) := c4.trans (by
        refine XS.istoreS Xl.here hexec rfl (hb hbytes d13) rfl rfl hz ?_
        exact Steps.refl _)
      have c6 : Steps p.tables e below (s₁.setTop (entryFrame m #[.ref b, .int (Int32.ofNat o), .ref d, .int (Int32.ofNat q), .int (Int32.ofNat len)] 7)) (Tl.setTop (mkF m 31 #[.val (.ref b), .val (.int (Int32.ofNat (o + i))), .val (.ref d), .val (.int (Int32.ofNat (q + i))), .val (.int (Int32.ofNat len)), .val (.int (Int32.ofNat i)), .val (.int (cv A (o + i)))] [.int (lo8 (cv A (o + i))), .int (Int32.ofNat (q + i)), .ref d])) := c5.trans (by
        refine XS.iload Xl.here hexec rfl (hb hbytes d15) rfl ?_
        refine sipushV Xl.here hexec rfl 255 (hb hbytes d17) (by decide) ?_
        refine XS.icmpYes Xl.here hexec rfl (pc0 := 20) rfl (hb hbytes d20) rfl (ii_le_t (hp i (by omega))) (by decide) rfl ?_
        refine XS.aloadN Xl.here hexec rfl (hb hbytes d26) rfl rfl ?_
        refine XS.iloadN Xl.here hexec rfl (hb hbytes d27) rfl ?_
        refine XS.iload Xl.here hexec rfl (hb hbytes d28) rfl ?_
        refine i2b Xl.here hexec rfl (hb hbytes d30) rfl ?_
        exact Steps.refl _)
      obtain ⟨T7, X7, p7, st7⟩ := Xl.aput hexec hBk rfl hlt rfl (fits_lo8 (cv A (o + i))) (g := (mkF m 31 #[.val (.ref b), .val (.int (Int32.ofNat (o + i))), .val (.ref d), .val (.int (Int32.ofNat (q + i))), .val (.int (Int32.ofNat len)), .val (.int (Int32.ofNat i)), .val (.int (cv A (o + i)))] [.int (lo8 (cv A (o + i))), .int (Int32.ofNat (q + i)), .ref d])) rfl (rest := []) rfl (hb hbytes d31)
      have c8 : Steps p.tables e below (s₁.setTop (entryFrame m #[.ref b, .int (Int32.ofNat o), .ref d, .int (Int32.ofNat q), .int (Int32.ofNat len)] 7)) (T7.setTop (mkF m 32 #[.val (.ref b), .val (.int (Int32.ofNat (o + i))), .val (.ref d), .val (.int (Int32.ofNat (q + i))), .val (.int (Int32.ofNat len)), .val (.int (Int32.ofNat i)), .val (.int (cv A (o + i)))] [])) := c6.trans (st7 _ (Steps.refl _))
      have c9 : Steps p.tables e below (s₁.setTop (entryFrame m #[.ref b, .int (Int32.ofNat o), .ref d, .int (Int32.ofNat q), .int (Int32.ofNat len)] 7)) (T7.setTop (mkF m 3 #[.val (.ref b), .val (.int (Int32.ofNat (o + i) + 1)), .val (.ref d), .val (.int (Int32.ofNat (q + i) + 1)), .val (.int (Int32.ofNat len)), .val (.int (Int32.ofNat i + 1)), .val (.int (cv A (o + i)))] [])) := c8.trans (by
        refine iincV X7.here hexec rfl 1 (hb hbytes d32) (by decide) rfl rfl ?_
        refine iincV X7.here hexec rfl 1 (hb hbytes d35) (by decide) rfl rfl ?_
        refine iincV X7.here hexec rfl 1 (hb hbytes d38) (by decide) rfl rfl ?_
        refine XS.goto X7.here hexec rfl (pc0 := 41) rfl (hb hbytes d41) (by decide) rfl ?_
        exact Steps.refl _)
      have c10 : Steps p.tables e below (s₁.setTop (entryFrame m #[.ref b, .int (Int32.ofNat o), .ref d, .int (Int32.ofNat q), .int (Int32.ofNat len)] 7)) (T7.setTop (mkF m 3 #[.val (.ref b), .val (.int (Int32.ofNat (o + (i + 1)))), .val (.ref d), .val (.int (Int32.ofNat (q + (i + 1)))), .val (.int (Int32.ofNat len)), .val (.int (Int32.ofNat (i + 1))), .val (.int (cv A (o + i)))] [])) := by
        have := c9
        rw [succ32, succ32, succ32] at this
        exact this
      exact ih (i + 1) (by omega) _ (Or.inr ⟨_, rfl, rfl⟩) T7 _ (by rw [copyLocs_step, ← List.append_assoc]; exact X7) (pl.trans p7) (fl.step (by omega) hlt (by simp)) c10
  obtain ⟨T9, B9, z9, X9, p9, f9, g9⟩ := loop len 0 (by omega) .unset (Or.inl rfl) s₁ B (by simpa [copyLocs] using X0) ⟨hB0.1, fun _ _ => rfl, rfl⟩ (Laid.zero _ _ _) c2
  have c11 : Steps p.tables e below (s₁.setTop (entryFrame m #[.ref b, .int (Int32.ofNat o), .ref d, .int (Int32.ofNat q), .int (Int32.ofNat len)] 7)) (T9.setTop (mkF m 46 #[.val (.ref b), .val (.int (Int32.ofNat (o + len))), .val (.ref d), .val (.int (Int32.ofNat (q + len))), .val (.int (Int32.ofNat len)), .val (.int (Int32.ofNat len)), z9] [.int (Int32.ofNat len)])) := g9.trans (by
    refine XS.iload X9.here hexec rfl (hb hbytes d3) rfl ?_
    refine XS.iload X9.here hexec rfl (hb hbytes d5) rfl ?_
    refine XS.icmpYes X9.here hexec rfl (pc0 := 7) rfl (hb hbytes d7) rfl (ii_ge_t (nlt32 (by omega) (Nat.le_refl _))) (by decide) rfl ?_
    refine XS.iload X9.here hexec rfl (hb hbytes d44) rfl ?_
    exact Steps.refl _)
  exact ⟨T9, some (.int (Int32.ofNat len)), _, _, _, X9, by simp, rfl, rfl, (fun h => by cases h), ⟨rfl, B9, p9.from hh0, f9⟩, fun fs hl => c11.trans (X9.ireturnOut hexec hret rfl (Or.inl rfl) (hb hbytes d46) hl)⟩
end Cmp5
namespace Cmp3
def yN : MethodName := ⟨"java/lang/StringUTF16", "compress", "([CII)[B"⟩
abbrev yB : ByteArray := jdk_52_method_16_code
theorem d0 : decode yB 0 = .ok (.iload_n 2, 1) := by decide +kernel
theorem d1 : decode yB 1 = .ok (.newarray .byte, 2) := by decide +kernel
theorem d3 : decode yB 3 = .ok (.astore_n 3, 1) := by decide +kernel
theorem d4 : decode yB 4 = .ok (.aload_n 0, 1) := by decide +kernel
theorem d5 : decode yB 5 = .ok (.iload_n 1, 1) := by decide +kernel
theorem d6 : decode yB 6 = .ok (.aload_n 3, 1) := by decide +kernel
theorem d7 : decode yB 7 = .ok (.iconst 0, 1) := by decide +kernel
theorem d8 : decode yB 8 = .ok (.iload_n 2, 1) := by decide +kernel
theorem d9 : decode yB 9 = .ok (.invokestatic 115, 3) := by decide +kernel
theorem d12 : decode yB 12 = .ok (.istore 4, 2) := by decide +kernel
theorem d14 : decode yB 14 = .ok (.iload 4, 2) := by decide +kernel
theorem d16 : decode yB 16 = .ok (.iload_n 2, 1) := by decide +kernel
theorem d17 : decode yB 17 = .ok (.if_icmp (.eq) 40, 3) := by decide +kernel
theorem d57 : decode yB 57 = .ok (.aload_n 3, 1) := by decide +kernel
theorem d58 : decode yB 58 = .ok (.areturn, 1) := by decide +kernel
def site : List Cond := [.arrayClass .byte, Cmp5.tab] ++ staticW U16 115 Cmp5.yN
def tab : Cond := tabOf yN yB 6 (some (.array .byte)) site
def P (b : Addr) (A : Cell) (o len : Nat) (args : Array Value) (s : State) : Prop := args = #[.ref b, .int (Int32.ofNat o), .int (Int32.ofNat len)] ∧ Ch b A s ∧ o + len ≤ A.slots.size ∧ len ≤ 536870912 ∧ ∀ i, i < len → ¬ 255 < cv A (o + i)
def E (b : Addr) (A : Cell) (o len : Nat) (r : Option Value) (s u : State) : Prop := NewArr .byte "[B" len (fun j => .int (lo8 (cv A (o + j)))) r s u ∧ u.heap.size = s.heap.size + 1
/-- no char of the range above 255: a new byte[] of their low bytes -/
theorem law (l : Launch) (b : Addr) (A : Cell) (o len : Nat) : Law l yN 3 3 1 18 yB 6 (some (.array .byte)) site (P b A o len) (E b A o len) [] 1 len := by
  refine Law.of_walk (plainFor_of_name (by decide +kernel)) (by decide +kernel) (by decide +kernel) (by decide) (fun _ _ h => by rw [h.1]; rfl) (fun _ U U' hal hh h => ⟨h.1, h.2.1.mv hal hh, h.2.2⟩) (fun r U U' V V' h1 hal h2 h => ⟨NewArr.mv r U U' V V' h1 hal h2 h.1, by rw [h1, h2]; exact h.2⟩) ?_
  intro p e s m args below meth c s₁ X0 hexec hbytes hml hret hlk hnm hown hh0 W hP
  obtain ⟨rfl, hA, l1, l2, hp⟩ := hP
  have a31 := hA.1.2.2.2
  have c1 : Steps p.tables e below (s₁.setTop (entryFrame m #[.ref b, .int (Int32.ofNat o), .int (Int32.ofNat len)] 6)) (s₁.setTop (mkF m 0 #[.val (.ref b), .val (.int (Int32.ofNat o)), .val (.int (Int32.ofNat len)), .unset, .unset, .unset] [])) := entry rfl
  have c2 : Steps p.tables e below (s₁.setTop (entryFrame m #[.ref b, .int (Int32.ofNat o), .int (Int32.ofNat len)] 6)) (s₁.setTop (mkF m 1 #[.val (.ref b), .val (.int (Int32.ofNat o)), .val (.int (Int32.ofNat len)), .unset, .unset, .unset] [.int (Int32.ofNat len)])) := c1.trans (by
    refine XS.iloadN X0.here hexec rfl (hb hbytes d0) rfl ?_
    exact Steps.refl _)
  obtain ⟨T3, B3, X3, ba3, bs3, bv3, bh3, bf3, st3⟩ := X0.anew hexec (atype := .byte) (wk W (.arrayClass .byte)) rfl (by show len * 1 ≤ _; omega) (by omega) (g := (mkF m 1 #[.val (.ref b), .val (.int (Int32.ofNat o)), .val (.int (Int32.ofNat len)), .unset, .unset, .unset] [.int (Int32.ofNat len)])) rfl (hb hbytes d1) (rest := []) rfl (Nat.le_refl _) (by show 0 + len ≤ len; omega)
  rw [hh0] at ba3 st3
  have kp3 : XT.Kept s T3 := (XT.Kept.of_eq hh0).push bh3
  have hA3 := hA.keep X3.warmed.alike (kp3 _ _ hA.1.1)
  have hne : b ≠ s.heap.size := hA.1.ne
  have c4 : Steps p.tables e below (s₁.setTop (entryFrame m #[.ref b, .int (Int32.ofNat o), .int (Int32.ofNat len)] 6)) (T3.setTop (mkF m 3 #[.val (.ref b), .val (.int (Int32.ofNat o)), .val (.int (Int32.ofNat len)), .unset, .unset, .unset] [.ref s.heap.size])) := c2.trans (st3 _ (Steps.refl _))
  have c5 : Steps p.tables e below (s₁.setTop (entryFrame m #[.ref b, .int (Int32.ofNat o), .int (Int32.ofNat len)] 6)) (T3.setTop (mkF m 9 #[.val (.ref b), .val (.int (Int32.ofNat o)), .val (.int (Int32.ofNat len)), .val (.ref s.heap.size), .unset, .unset] [.int (Int32.ofNat len), .int 0, .ref s.heap.size, .int (Int32.ofNat o), .ref b])) := c4.trans (by
    refine XS.astoreN X3.here hexec rfl (hb hbytes d3) rfl rfl rfl ?_
    refine XS.aloadN X3.here hexec rfl (hb hbytes d4) rfl rfl ?_
    refine XS.iloadN X3.here hexec rfl (hb hbytes d5) rfl ?_
    refine XS.aloadN X3.here hexec rfl (hb hbytes d6) rfl rfl ?_
    refine iconstV X3.here hexec rfl 0 (hb hbytes d7) (by decide) ?_
    refine XS.iloadN X3.here hexec rfl (hb hbytes d8) rfl ?_
    exact Steps.refl _)
  obtain ⟨v6, T6, X6, E6, g6⟩ := X3.callS hexec (Cmp5.law l b A s.heap.size B3 o 0 len) hown (wks W (staticW U16 115 Cmp5.yN)) (wk W Cmp5.tab) (W := 0) (Nat.le_of_ble_eq_true rfl) (Nat.le_of_ble_eq_true rfl) (Nat.le_refl _) (by show 0 + len + 0 ≤ len; omega) (g := (mkF m 9 #[.val (.ref b), .val (.int (Int32.ofNat o)), .val (.int (Int32.ofNat len)), .val (.ref s.heap.size), .unset, .unset] [.int (Int32.ofNat len), .int (Int32.ofNat 0), .ref s.heap.size, .int (Int32.ofNat o), .ref b])) rfl (by rw [hml]; rfl) c5 (argsL := [.ref b, .int (Int32.ofNat o), .ref s.heap.size, .int (Int32.ofNat 0), .int (Int32.ofNat len)]) (rest := []) rfl rfl (by show 2 * 0 + 0 ≤ _; decide) (hb hbytes d9) (⟨rfl, hA3, ba3, hne, l1, by rw [bs3]; simp, hp⟩)
  obtain ⟨rfl, B6, p6, f6⟩ := E6
  have c7 : Steps p.tables e below (s₁.setTop (entryFrame m #[.ref b, .int (Int32.ofNat o), .int (Int32.ofNat len)] 6)) (T6.setTop (mkF m 12 #[.val (.ref b), .val (.int (Int32.ofNat o)), .val (.int (Int32.ofNat len)), .val (.ref s.heap.size), .unset, .unset] [.int (Int32.ofNat len)])) := g6
  have c8 : Steps p.tables e below (s₁.setTop (entryFrame m #[.ref b, .int (Int32.ofNat o), .int (Int32.ofNat len)] 6)) (T6.setTop (mkF m 58 #[.val (.ref b), .val (.int (Int32.ofNat o)), .val (.int (Int32.ofNat len)), .val (.ref s.heap.size), .val (.int (Int32.ofNat len)), .unset] [.ref s.heap.size])) := c7.trans (by
    refine XS.istore X6.here hexec rfl (hb hbytes d12) rfl rfl ?_
    refine XS.iload X6.here hexec rfl (hb hbytes d14) rfl ?_
    refine XS.iloadN X6.here hexec rfl (hb hbytes d16) rfl ?_
    refine XS.icmpYes X6.here hexec rfl (pc0 := 17) rfl (hb hbytes d17) rfl (ii_eq_t rfl) (by decide) rfl ?_
    refine XS.aloadN X6.here hexec rfl (hb hbytes d57) rfl rfl ?_
    exact Steps.refl _)
  have X8 := X6.wide (L' := []) (cells' := 1) (slots' := len) (fun x hx hlt => by
    simp only [List.nil_append, copyLocs, List.mem_map, List.mem_range] at hx
    obtain ⟨i, -, rfl⟩ := hx
    exact absurd hlt (Nat.lt_irrefl _)) (Nat.le_refl _) (by omega)
  exact ⟨T6, some (.ref s.heap.size), _, _, _, X8, rfl, rfl, rfl, (fun h => by cases h), ⟨⟨rfl, B6, ba3.like (X3.warmed.alike.symm.trans X6.warmed.alike) p6.1 f6.1 f6.2.1 f6.2.2.1, f6.2.1.trans bv3, by rw [X6.warmed.alike.findClass, f6.1]; exact bf3, by rw [f6.2.2.1, bs3]; simp, fun j hj => by rw [f6.2.2.2 j, if_pos (by omega)]; rfl, kp3.put p6 (Nat.le_refl _)⟩, by rw [p6.2.2, bh3, hh0]; simp⟩, fun fs hl => c8.trans (X8.areturnOut hexec rfl hret rfl (hb hbytes d58) hl)⟩
end Cmp3
namespace CodL
def yN : MethodName := ⟨"java/lang/StringUTF16", "coderFromArrayLen", "([BI)B"⟩
abbrev yB : ByteArray := jdk_52_method_15_code
theorem d0 : decode yB 0 = .ok (.iload_n 1, 1) := by decide +kernel
theorem d1 : decode yB 1 = .ok (.aload_n 0, 1) := by decide +kernel
theorem d2 : decode yB 2 = .ok (.arraylength, 1) := by decide +kernel
theorem d3 : decode yB 3 = .ok (.isub, 1) := by decide +kernel
theorem d4 : decode yB 4 = .ok (.bipush 31, 2) := by decide +kernel
theorem d6 : decode yB 6 = .ok (.iushr, 1) := by decide +kernel
theorem d7 : decode yB 7 = .ok (.i2b, 1) := by decide +kernel
theorem d8 : decode yB 8 = .ok (.ireturn, 1) := by decide +kernel
def site : List Cond := []
def tab : Cond := tabOf yN yB 2 (some .byte) site
def P (d : Addr) (B : Cell) (args : Array Value) (s : State) : Prop := args = #[.ref d, .int (Int32.ofNat B.slots.size)] ∧ Arr .byte d B s
def E (r : Option Value) (s u : State) : Prop := XT.PureE (some (.int 0)) r s u
/-- an array as long as the number of chars: LATIN1 -/
theorem law (l : Launch) (d : Addr) (B : Cell) : Law l yN 2 2 0 0 yB 2 (some .byte) site (P d B) E [] 0 0 := by
  refine Law.of_walk (plainFor_of_name (by decide +kernel)) (by decide +kernel) (by decide +kernel) (by decide) (fun _ _ h => by rw [h.1]; rfl) (fun _ U U' hal hh h => ⟨h.1, h.2.mv hal hh⟩) (fun r U U' V V' h1 hal h2 h => XT.PureE.mv r U U' V V' h1 hal h2 h) ?_
  intro p e s m args below meth c s₁ X0 hexec hbytes hml hret hlk hnm hown hh0 W hP
  obtain ⟨rfl, hB⟩ := hP
  have hB0 := hB.mv X0.warmed.alike hh0
  have c1 : Steps p.tables e below (s₁.setTop (entryFrame m #[.ref d, .int (Int32.ofNat B.slots.size)] 2)) (s₁.setTop (mkF m 0 #[.val (.ref d), .val (.int (Int32.ofNat B.slots.size))] [])) := entry rfl
  have c2 : Steps p.tables e below (s₁.setTop (entryFrame m #[.ref d, .int (Int32.ofNat B.slots.size)] 2)) (s₁.setTop (mkF m 2 #[.val (.ref d), .val (.int (Int32.ofNat B.slots.size))] [.ref d, .int (Int32.ofNat B.slots.size)])) := c1.trans (by
    refine XS.iloadN X0.here hexec rfl (hb hbytes d0) rfl ?_
    refine XS.aloadN X0.here hexec rfl (hb hbytes d1) rfl rfl ?_
    exact Steps.refl _)
  have c3 : Steps p.tables e below (s₁.setTop (entryFrame m #[.ref d, .int (Int32.ofNat B.slots.size)] 2)) (s₁.setTop (mkF m 8 #[.val (.ref d), .val (.int (Int32.ofNat B.slots.size))] [.int (lo8 (ushr (Int32.ofNat B.slots.size - Int32.ofNat B.slots.size) 31))])) := c2.trans (by
    refine X0.alen hexec hB0 rfl rfl (hb hbytes d2) ?_
    refine XS.isub X0.here hexec rfl (hb hbytes d3) rfl ?_
    refine bipushV X0.here hexec rfl 31 (hb hbytes d4) (by decide) ?_
    refine iushr X0.here hexec rfl (hb hbytes d6) rfl ?_
    refine i2b X0.here hexec rfl (hb hbytes d7) rfl ?_
    exact Steps.refl _)
  have e0 : lo8 (ushr (Int32.ofNat B.slots.size - Int32.ofNat B.slots.size) 31) = 0 := by rw [Int32.sub_self]; decide
  rw [e0] at c3
  exact ⟨s₁, some (.int 0), _, _, _, X0, rfl, rfl, rfl, (fun h => by cases h), ⟨rfl, hh0⟩, fun fs hl => c3.trans (X0.ireturnOut hexec hret rfl (Or.inr (Or.inr (Or.inl rfl))) (hb hbytes d8) hl)⟩
end CodL
/-- the String at a is Latin-1 over a new byte[] (the heap's one new cell): the low bytes of the len chars of A from o on; every cell but a is kept -/
def Got (a : Addr) (D : Cell) (fV fC : Field) (A : Cell) (o len : Nat) (r : Option Value) (s u : State) : Prop := r = none ∧ ∃ D' V : Cell, Blank "java/lang/String" a D' u ∧ Same D D' [fV.slot, fC.slot] ∧ D'.slots[fV.slot]? = some (.ref s.heap.size) ∧ D'.slots[fC.slot]? = some (.int 0) ∧ Arr .byte s.heap.size V u ∧ V.vm = .none ∧ u.vm.findClass "[B" = some V.cls ∧ V.slots.size = len ∧ (∀ j, j < len → V.slots[j]? = some (.int (lo8 (cv A (o + j))))) ∧ (∀ (y : Addr) (c : Cell), y ≠ a → s.heap[y]? = some c → u.heap[y]? = some c) ∧ u.heap.size = s.heap.size + 1
theorem Got.mv {a : Addr} {D A : Cell} {fV fC : Field} {o len : Nat} : ∀ r (U U' V V' : State), U'.heap = U.heap → V.vm.Alike V'.vm → V'.heap = V.heap → Got a D fV fC A o len r U V → Got a D fV fC A o len r U' V' :=
  fun r U U' V V' h1 hal h2 ⟨e0, D', X, a1, a2, a3, a4, a5, a6, a7, a8, a9, a10, a11⟩ => ⟨e0, D', X, a1.mv hal h2, a2, by rw [h1]; exact a3, a4, by rw [h1]; exact a5.mv hal h2, a6, by rw [hal.findClass]; exact a7, a8, a9, by rw [h1, h2]; exact a10, by rw [h1, h2]; exact a11⟩
namespace New4
def yN : MethodName := ⟨"java/lang/String", "<init>", "([CIILjava/lang/Void;)V"⟩
abbrev yB : ByteArray := jdk_42_method_149_code
theorem d0 : decode yB 0 = .ok (.aload_n 0, 1) := by decide +kernel
theorem d1 : decode yB 1 = .ok (.invokespecial 1, 3) := by decide +kernel
theorem d4 : decode yB 4 = .ok (.iload_n 3, 1) := by decide +kernel
theorem d5 : decode yB 5 = .ok (.ifCond (.ne) 22, 3) := by decide +kernel
theorem d27 : decode yB 27 = .ok (.getstatic 38, 3) := by decide +kernel
theorem d30 : decode yB 30 = .ok (.ifCond (.eq) 28, 3) := by decide +kernel
theorem d33 : decode yB 33 = .ok (.aload_n 1, 1) := by decide +kernel
theorem d34 : decode yB 34 = .ok (.iload_n 2, 1) := by decide +kernel
theorem d35 : decode yB 35 = .ok (.iload_n 3, 1) := by decide +kernel
theorem d36 : decode yB 36 = .ok (.invokestatic 177, 3) := by decide +kernel
theorem d39 : decode yB 39 = .ok (.astore 5, 2) := by decide +kernel
theorem d41 : decode yB 41 = .ok (.aload_n 0, 1) := by decide +kernel
theorem d42 : decode yB 42 = .ok (.aload 5, 2) := by decide +kernel
theorem d44 : decode yB 44 = .ok (.iload_n 3, 1) := by decide +kernel
theorem d45 : decode yB 45 = .ok (.invokestatic 47, 3) := by decide +kernel
theorem d48 : decode yB 48 = .ok (.putfield 15, 3) := by decide +kernel
theorem d51 : decode yB 51 = .ok (.aload_n 0, 1) := by decide +kernel
theorem d52 : decode yB 52 = .ok (.aload 5, 2) := by decide +kernel
theorem d54 : decode yB 54 = .ok (.putfield 9, 3) := by decide +kernel
theorem d57 : decode yB 57 = .ok (.return_, 1) := by decide +kernel
def site : List Cond := [.fieldLink "java/lang/String" 38 "java/lang/String" "COMPACT_STRINGS" "Z", Cmp3.tab, CodL.tab, .laysFinal "java/lang/String" "java/lang/String" "value" "[B", .fieldLink "java/lang/String" 9 "java/lang/String" "value" "[B", .laysFinal "java/lang/String" "java/lang/String" "coder" "B", .fieldLink "java/lang/String" 15 "java/lang/String" "coder" "B"] ++ objW "java/lang/String" 1 ++ staticW "java/lang/String" 177 Cmp3.yN ++ staticW "java/lang/String" 47 CodL.yN
def tab : Cond := tabOf yN yB 6 none site
def P (a : Addr) (D : Cell) (fV fC : Field) (b : Addr) (A : Cell) (z : Int32) (o len : Nat) (args : Array Value) (s : State) : Prop := args = #[.ref a, .ref b, .int (Int32.ofNat o), .int (Int32.ofNat len), .null] ∧ Blank "java/lang/String" a D s ∧ Found "java/lang/String" "value" "[B" fV s ∧ Found "java/lang/String" "coder" "B" fC s ∧ Ch b A s ∧ StaticIs s "java/lang/String" "COMPACT_STRINGS" "Z" (.int z) ∧ ¬ z = 0 ∧ 0 < len ∧ o + len ≤ A.slots.size ∧ len ≤ 536870912 ∧ ∀ i, i < len → ¬ 255 < cv A (o + i)
def E (a : Addr) (D : Cell) (fV fC : Field) (A : Cell) (o len : Nat) (r : Option Value) (s u : State) : Prop := Got a D fV fC A o len r s u
/-- len > 0, no char of the range above 255: a Latin-1 String of their low bytes -/
theorem law (l : Launch) (a : Addr) (D : Cell) (fV fC : Field) (b : Addr) (A : Cell) (z : Int32) (o len : Nat) : Law l yN 5 4 2 35 yB 6 none site (P a D fV fC b A z o len) (E a D fV fC A o len) [⟨a, fC.slot⟩, ⟨a, fV.slot⟩] 1 len := by
  refine Law.of_walk (plainFor_of_name (by decide +kernel)) (by decide +kernel) (by decide +kernel) (by decide) (fun _ _ h => by rw [h.1]; rfl) (fun _ U U' hal hh h => ⟨h.1, h.2.1.mv hal hh, h.2.2.1.al hal, h.2.2.2.1.al hal, h.2.2.2.2.1.mv hal hh, h.2.2.2.2.2.1.there hal hh, h.2.2.2.2.2.2⟩) (fun r U U' V V' h1 hal h2 h => Got.mv r U U' V V' h1 hal h2 h) ?_
  intro p e s m args below meth c s₁ X0 hexec hbytes hml hret hlk hnm hown hh0 W hP
  obtain ⟨rfl, hB, f1, f2, hA, s1, hz, l0, l1, l2, hp⟩ := hP
  have a31 := hA.1.2.2.2
  have c1 : Steps p.tables e below (s₁.setTop (entryFrame m #[.ref a, .ref b, .int (Int32.ofNat o), .int (Int32.ofNat len), .null] 6)) (s₁.setTop (mkF m 0 #[.val (.ref a), .val (.ref b), .val (.int (Int32.ofNat o)), .val (.int (Int32.ofNat len)), .val .null, .unset] [])) := entry rfl
  have c2 : Steps p.tables e below (s₁.setTop (entryFrame m #[.ref a, .ref b, .int (Int32.ofNat o), .int (Int32.ofNat len), .null] 6)) (s₁.setTop (mkF m 1 #[.val (.ref a), .val (.ref b), .val (.int (Int32.ofNat o)), .val (.int (Int32.ofNat len)), .val .null, .unset] [.ref a])) := c1.trans (by
    refine XS.aloadN X0.here hexec rfl (hb hbytes d0) rfl rfl ?_
    exact Steps.refl _)
  obtain ⟨T3, X3, q3, st3⟩ := X0.oinit hexec hown (wks W (objW "java/lang/String" 1)) (g := (mkF m 1 #[.val (.ref a), .val (.ref b), .val (.int (Int32.ofNat o)), .val (.int (Int32.ofNat len)), .val .null, .unset] [.ref a])) rfl (by rw [hml]; rfl) (rest := []) rfl (hb hbytes d1) (W := 0) (by show 2 * 0 + 0 ≤ _; decide) (Nat.le_of_ble_eq_true rfl) (Nat.le_of_ble_eq_true rfl)
  have hh3 := q3.trans hh0
  have c4 : Steps p.tables e below (s₁.setTop (entryFrame m #[.ref a, .ref b, .int (Int32.ofNat o), .int (Int32.ofNat len), .null] 6)) (T3.setTop (mkF m 27 #[.val (.ref a), .val (.ref b), .val (.int (Int32.ofNat o)), .val (.int (Int32.ofNat len)), .val .null, .unset] [])) := (c2.trans (st3 _ (Steps.refl _))).trans (by
    refine XS.iloadN X3.here hexec rfl (hb hbytes d4) rfl ?_
    refine XS.ifYes X3.here hexec rfl (pc0 := 5) rfl (hb hbytes d5) rfl (i0_ne_t (nz32 (by omega) l0)) (by decide) rfl ?_
    exact Steps.refl _)
  obtain ⟨T5, X5, q5, st5⟩ := X3.sget hexec hown (wk W (.fieldLink "java/lang/String" 38 "java/lang/String" "COMPACT_STRINGS" "Z")) s1 (fun _ _ h => by rw [hh3]; exact h) (g := (mkF m 27 #[.val (.ref a), .val (.ref b), .val (.int (Int32.ofNat o)), .val (.int (Int32.ofNat len)), .val .null, .unset] [])) rfl (hb hbytes d27)
  have hh5 := q5.trans hh3
  have c6 : Steps p.tables e below (s₁.setTop (entryFrame m #[.ref a, .ref b, .int (Int32.ofNat o), .int (Int32.ofNat len), .null] 6)) (T5.setTop (mkF m 30 #[.val (.ref a), .val (.ref b), .val (.int (Int32.ofNat o)), .val (.int (Int32.ofNat len)), .val .null, .unset] [.int z])) := c4.trans (st5 _ (Steps.refl _))
  have c7 : Steps p.tables e below (s₁.setTop (entryFrame m #[.ref a, .ref b, .int (Int32.ofNat o), .int (Int32.ofNat len), .null] 6)) (T5.setTop (mkF m 36 #[.val (.ref a), .val (.ref b), .val (.int (Int32.ofNat o)), .val (.int (Int32.ofNat len)), .val .null, .unset] [.int (Int32.ofNat len), .int (Int32.ofNat o), .ref b])) := c6.trans (by
    refine XS.ifNo X5.here hexec rfl (hb hbytes d30) rfl (i0_eq_f hz) ?_
    refine XS.aloadN X5.here hexec rfl (hb hbytes d33) rfl rfl ?_
    refine XS.iloadN X5.here hexec rfl (hb hbytes d34) rfl ?_
    refine XS.iloadN X5.here hexec rfl (hb hbytes d35) rfl ?_
    exact Steps.refl _)
  obtain ⟨v8, T8, X8, E8, g8⟩ := X5.callS hexec (Cmp3.law l b A o len) hown (wks W (staticW "java/lang/String" 177 Cmp3.yN)) (wk W Cmp3.tab) (W := 0) (Nat.le_of_ble_eq_true rfl) (Nat.le_of_ble_eq_true rfl) (Nat.le_refl _) (by show 0 + len ≤ len; omega) (g := (mkF m 36 #[.val (.ref a), .val (.ref b), .val (.int (Int32.ofNat o)), .val (.int (Int32.ofNat len)), .val .null, .unset] [.int (Int32.ofNat len), .int (Int32.ofNat o), .ref b])) rfl (by rw [hml]; rfl) c7 (argsL := [.ref b, .int (Int32.ofNat o), .int (Int32.ofNat len)]) (rest := []) rfl rfl (by show 2 * 0 + 0 ≤ _; decide) (hb hbytes d36) (⟨rfl, hA.mv X5.warmed.alike hh5, l1, l2, hp⟩)
  obtain ⟨e8, z8⟩ := E8
  obtain ⟨rfl, N, n1, n2, n3, n4, n5, n6⟩ := NewArr.mv _ T5 s _ _ hh5.symm (Vm.Alike.refl _) rfl e8
  rw [hh5] at z8
  have hB1 := hB.keep X8.warmed.alike (n6 _ _ hB.1)
  have hne : s.heap.size ≠ a := (Nat.ne_of_lt (Array.getElem?_eq_some_iff.mp hB.1).1).symm
  have c9 : Steps p.tables e below (s₁.setTop (entryFrame m #[.ref a, .ref b, .int (Int32.ofNat o), .int (Int32.ofNat len), .null] 6)) (T8.setTop (mkF m 39 #[.val (.ref a), .val (.ref b), .val (.int (Int32.ofNat o)), .val (.int (Int32.ofNat len)), .val .null, .unset] [.ref s.heap.size])) := g8
  have c10 : Steps p.tables e below (s₁.setTop (entryFrame m #[.ref a, .ref b, .int (Int32.ofNat o), .int (Int32.ofNat len), .null] 6)) (T8.setTop (mkF m 45 #[.val (.ref a), .val (.ref b), .val (.int (Int32.ofNat o)), .val (.int (Int32.ofNat len)), .val .null, .val (.ref s.heap.size)] [.int (Int32.ofNat N.slots.size), .ref s.heap.size, .ref a])) := by
    have hc : Steps p.tables e below (s₁.setTop (entryFrame m #[.ref a, .ref b, .int (Int32.ofNat o), .int (Int32.ofNat len), .null] 6)) (T8.setTop (mkF m 45 #[.val (.ref a), .val (.ref b), .val (.int (Int32.ofNat o)), .val (.int (Int32.ofNat len)), .val .null, .val (.ref s.heap.size)] [.int (Int32.ofNat len), .ref s.heap.size, .ref a])) := c9.trans (by
      refine XS.astore X8.here hexec rfl (hb hbytes d39) rfl rfl rfl ?_
      refine XS.aloadN X8.here hexec rfl (hb hbytes d41) rfl rfl ?_
      refine XS.aload X8.here hexec rfl (hb hbytes d42) rfl rfl ?_
      refine XS.iloadN X8.here hexec rfl (hb hbytes d44) rfl ?_
      exact Steps.refl _)
    rw [n4]; exact hc
  obtain ⟨v11, T11, X11, E11, g11⟩ := X8.callS hexec (CodL.law l s.heap.size N) hown (wks W (staticW "java/lang/String" 47 CodL.yN)) (wk W CodL.tab) (W := 1) (Nat.le_of_ble_eq_true rfl) (Nat.le_of_ble_eq_true rfl) (Nat.le_refl _) (by show 0 + len + 0 ≤ len; omega) (g := (mkF m 45 #[.val (.ref a), .val (.ref b), .val (.int (Int32.ofNat o)), .val (.int (Int32.ofNat len)), .val .null, .val (.ref s.heap.size)] [.int (Int32.ofNat N.slots.size), .ref s.heap.size, .ref a])) rfl (by rw [hml]; rfl) c10 (argsL := [.ref s.heap.size, .int (Int32.ofNat N.slots.size)]) (rest := [.ref a]) rfl rfl (by show 2 * 0 + (1 + 0) ≤ _; decide) (hb hbytes d45) (⟨rfl, n1⟩)
  obtain ⟨rfl, q11⟩ := E11
  have hB11 := hB1.mv (X8.warmed.alike.symm.trans X11.warmed.alike) q11
  have c12 : Steps p.tables e below (s₁.setTop (entryFrame m #[.ref a, .ref b, .int (Int32.ofNat o), .int (Int32.ofNat len), .null] 6)) (T11.setTop (mkF m 48 #[.val (.ref a), .val (.ref b), .val (.int (Int32.ofNat o)), .val (.int (Int32.ofNat len)), .val .null, .val (.ref s.heap.size)] [.int 0, .ref a])) := g11
  obtain ⟨T13, X13, p13, bl13, sl13, st13⟩ := X11.finit hexec hown (wk W (.fieldLink "java/lang/String" 15 "java/lang/String" "coder" "B")) (Or.inr ⟨_, (wk W (.laysFinal "java/lang/String" "java/lang/String" "coder" "B"))⟩) (Or.inl ⟨rfl, hnm⟩) f2 (Or.inl rfl) hB11 (t := .byte) (by decide +kernel) rfl (g := (mkF m 48 #[.val (.ref a), .val (.ref b), .val (.int (Int32.ofNat o)), .val (.int (Int32.ofNat len)), .val .null, .val (.ref s.heap.size)] [.int 0, .ref a])) rfl (rest := []) rfl (hb hbytes d48)
  have c14 : Steps p.tables e below (s₁.setTop (entryFrame m #[.ref a, .ref b, .int (Int32.ofNat o), .int (Int32.ofNat len), .null] 6)) (T13.setTop (mkF m 54 #[.val (.ref a), .val (.ref b), .val (.int (Int32.ofNat o)), .val (.int (Int32.ofNat len)), .val .null, .val (.ref s.heap.size)] [.ref s.heap.size, .ref a])) := (c12.trans (st13 _ (Steps.refl _))).trans (by
    refine XS.aloadN X13.here hexec rfl (hb hbytes d51) rfl rfl ?_
    refine XS.aload X13.here hexec rfl (hb hbytes d52) rfl rfl ?_
    exact Steps.refl _)
  obtain ⟨T15, X15, p15, bl15, sl15, st15⟩ := X13.finit hexec hown (wk W (.fieldLink "java/lang/String" 9 "java/lang/String" "value" "[B")) (Or.inr ⟨_, (wk W (.laysFinal "java/lang/String" "java/lang/String" "value" "[B"))⟩) (Or.inl ⟨rfl, hnm⟩) f1 (Or.inl rfl) bl13 (t := (.array .byte)) (by decide +kernel) rfl (g := (mkF m 54 #[.val (.ref a), .val (.ref b), .val (.int (Int32.ofNat o)), .val (.int (Int32.ofNat len)), .val .null, .val (.ref s.heap.size)] [.ref s.heap.size, .ref a])) rfl (rest := []) rfl (hb hbytes d54)
  have c16 : Steps p.tables e below (s₁.setTop (entryFrame m #[.ref a, .ref b, .int (Int32.ofNat o), .int (Int32.ofNat len), .null] 6)) (T15.setTop (mkF m 57 #[.val (.ref a), .val (.ref b), .val (.int (Int32.ofNat o)), .val (.int (Int32.ofNat len)), .val .null, .val (.ref s.heap.size)] [])) := c14.trans (st15 _ (Steps.refl _))
  have ap := apart (Or.inr ⟨_, (wk W (.laysFinal "java/lang/String" "java/lang/String" "value" "[B"))⟩) (Or.inr ⟨_, (wk W (.laysFinal "java/lang/String" "java/lang/String" "coder" "B"))⟩) f1 f2 (t₁ := .array .byte) (t₂ := .byte) (by decide +kernel) (by decide +kernel) (by decide)
  have al := X8.warmed.alike.symm.trans X15.warmed.alike
  have n7 : T11.heap[s.heap.size]? = some N := by rw [q11]; exact n1.1
  exact ⟨T15, none, _, _, _, X15, by simp, rfl, by omega, (fun _ => rfl), ⟨rfl, _, N, bl15, ((Same.refl D _).set _ (by simp)).set _ (by simp), sl15, (Cell.slots_setSlot_ne _ ap).trans sl13, n1.keep al (p15.other hne (p13.other hne n7)), n2, by rw [al.findClass]; exact n3, n4, n5, fun y c h1 h2 => p15.other h1 (p13.other h1 (by rw [q11]; exact n6 y c h2)), by rw [p15.2.2, p13.2.2, q11]; exact z8⟩, fun fs hl => c16.trans (X15.returnOut hexec hret (hb hbytes d57) hl)⟩
end New4
namespace New1
def yN : MethodName := ⟨"java/lang/String", "<init>", "([C)V"⟩
abbrev yB : ByteArray := jdk_42_method_3_code
theorem d0 : decode yB 0 = .ok (.aload_n 0, 1) := by decide +kernel
theorem d1 : decode yB 1 = .ok (.aload_n 1, 1) := by decide +kernel
theorem d2 : decode yB 2 = .ok (.iconst 0, 1) := by decide +kernel
theorem d3 : decode yB 3 = .ok (.aload_n 1, 1) := by decide +kernel
theorem d4 : decode yB 4 = .ok (.arraylength, 1) := by decide +kernel
theorem d5 : decode yB 5 = .ok (.aconst_null, 1) := by decide +kernel
theorem d6 : decode yB 6 = .ok (.invokespecial 27, 3) := by decide +kernel
theorem d9 : decode yB 9 = .ok (.return_, 1) := by decide +kernel
def site : List Cond := [New4.tab] ++ initW "java/lang/String" 27 New4.yN
def tab : Cond := tabOf yN yB 2 none site
def P (a : Addr) (D : Cell) (fV fC : Field) (b : Addr) (A : Cell) (z : Int32) (args : Array Value) (s : State) : Prop := args = #[.ref a, .ref b] ∧ Blank "java/lang/String" a D s ∧ Found "java/lang/String" "value" "[B" fV s ∧ Found "java/lang/String" "coder" "B" fC s ∧ Ch b A s ∧ StaticIs s "java/lang/String" "COMPACT_STRINGS" "Z" (.int z) ∧ ¬ z = 0 ∧ 0 < A.slots.size ∧ A.slots.size ≤ 536870912 ∧ ∀ i, i < A.slots.size → ¬ 255 < cv A i
def E (a : Addr) (D : Cell) (fV fC : Field) (A : Cell) (r : Option Value) (s u : State) : Prop := Got a D fV fC A 0 A.slots.size r s u
/-- new String(chars), not empty, no char above 255: a Latin-1 String of their low bytes -/
theorem law (l : Launch) (a : Addr) (D : Cell) (fV fC : Field) (b : Addr) (A : Cell) (z : Int32) : Law l yN 2 1 3 52 yB 2 none site (P a D fV fC b A z) (E a D fV fC A) [⟨a, fC.slot⟩, ⟨a, fV.slot⟩] 1 A.slots.size := by
  refine Law.of_walk (plainFor_of_name (by decide +kernel)) (by decide +kernel) (by decide +kernel) (by decide) (fun _ _ h => by rw [h.1]; rfl) (fun _ U U' hal hh h => ⟨h.1, h.2.1.mv hal hh, h.2.2.1.al hal, h.2.2.2.1.al hal, h.2.2.2.2.1.mv hal hh, h.2.2.2.2.2.1.there hal hh, h.2.2.2.2.2.2⟩) (fun r U U' V V' h1 hal h2 h => Got.mv r U U' V V' h1 hal h2 h) ?_
  intro p e s m args below meth c s₁ X0 hexec hbytes hml hret hlk hnm hown hh0 W hP
  obtain ⟨rfl, hB, f1, f2, hA, s1, hz, l0, l2, hp⟩ := hP
  have c1 : Steps p.tables e below (s₁.setTop (entryFrame m #[.ref a, .ref b] 2)) (s₁.setTop (mkF m 0 #[.val (.ref a), .val (.ref b)] [])) := entry rfl
  have c2 : Steps p.tables e below (s₁.setTop (entryFrame m #[.ref a, .ref b] 2)) (s₁.setTop (mkF m 6 #[.val (.ref a), .val (.ref b)] [.null, .int (Int32.ofNat A.slots.size), .int 0, .ref b, .ref a])) := c1.trans (by
    refine XS.aloadN X0.here hexec rfl (hb hbytes d0) rfl rfl ?_
    refine XS.aloadN X0.here hexec rfl (hb hbytes d1) rfl rfl ?_
    refine iconstV X0.here hexec rfl 0 (hb hbytes d2) (by decide) ?_
    refine XS.aloadN X0.here hexec rfl (hb hbytes d3) rfl rfl ?_
    refine X0.alen hexec (hA.1.mv X0.warmed.alike hh0) rfl rfl (hb hbytes d4) ?_
    refine XS.aconstNull X0.here hexec rfl (hb hbytes d5) ?_
    exact Steps.refl _)
  obtain ⟨v3, T3, X3, E3, g3⟩ := X0.callN hexec (New4.law l a D fV fC b A z 0 A.slots.size) rfl hown (wks W (initW "java/lang/String" 27 New4.yN)) (W New4.tab (by simp only [site, List.mem_cons, List.mem_append, true_or, or_true])) (W := 0) (Nat.le_of_ble_eq_true rfl) (Nat.le_of_ble_eq_true rfl) (Nat.le_refl _) (by show 0 + A.slots.size ≤ A.slots.size; omega) (g := (mkF m 6 #[.val (.ref a), .val (.ref b)] [.null, .int (Int32.ofNat A.slots.size), .int (Int32.ofNat 0), .ref b, .ref a])) rfl (by rw [hml]; rfl) c2 (argsL := [.ref b, .int (Int32.ofNat 0), .int (Int32.ofNat A.slots.size), .null]) (rest := []) rfl rfl (by show 2 * 0 + 0 ≤ _; decide) (hb hbytes d6) (⟨rfl, hB.mv X0.warmed.alike hh0, f1.al X0.warmed.alike, f2.al X0.warmed.alike, hA.mv X0.warmed.alike hh0, s1.there X0.warmed.alike hh0, hz, l0, by omega, l2, fun i hi => by rw [Nat.zero_add]; exact hp i hi⟩)
  have e0 := Got.mv _ s₁ s _ _ hh0.symm (Vm.Alike.refl _) rfl E3
  obtain rfl := e0.1
  have c4 : Steps p.tables e below (s₁.setTop (entryFrame m #[.ref a, .ref b] 2)) (T3.setTop (mkF m 9 #[.val (.ref a), .val (.ref b)] [])) := g3
  exact ⟨T3, none, _, _, _, X3, by simp, rfl, by omega, (fun _ => rfl), e0, fun fs hl => c4.trans (X3.returnOut hexec hret (hb hbytes d9) hl)⟩
theorem pays {l : Launch} {R : Room} {p : Program} {e : Env} {below : List Frame} {s : State} {sargs : Array Value} {len W : Nat} (a : Addr) (D : Cell) (fV fC : Field) (b : Addr) (A : Cell) (z : Int32) (htab : tab.before sargs s = true) (hfr : 4 ≤ R.frames) (hlo : W + 65 ≤ R.locals) :
    Back l R p e below s sargs yN len W (fun A₁ a₁ => A₁.cells + 1 ≤ R.cells ∧ A₁.slots + A.slots.size ≤ R.slots ∧ P a D fV fC b A z a₁ A₁.U) (fun A₁ _ v₁ B₁ => E a D fV fC A v₁ A₁.U B₁.U ∧ B₁.locs = A₁.locs ++ [⟨a, fC.slot⟩, ⟨a, fV.slot⟩] ∧ B₁.cells = A₁.cells + 1 ∧ B₁.slots = A₁.slots + A.slots.size) :=
  (law l a D fV fC b A z).pays htab hfr (by omega)
end New1
/-- the byte, read back as charAt reads it, is the char -/
theorem lo8_mask {x : Int32} (h0 : ¬ x < 0) (h1 : ¬ 255 < x) : lo8 x &&& 255 = x := by
  have t : ∀ k : Fin 256, lo8 (Int32.ofNat k.val) &&& 255 = Int32.ofNat k.val := by decide +kernel
  rw [Int32.lt_iff_toInt_lt] at h0 h1
  have e0 : (0 : Int32).toInt = 0 := rfl
  have e1 : (255 : Int32).toInt = 255 := rfl
  obtain ⟨k, hk⟩ : ∃ k : Nat, x.toInt = k := ⟨x.toInt.toNat, by omega⟩
  have hx : x = Int32.ofNat k := Int32.toInt_inj.mp (by rw [hk, Int32.toInt_ofNat_small (by omega)])
  rw [hx]
  exact t ⟨k, by omega⟩
end StrChars
namespace StrChars.Road
open Jvm Sem ClassFile Op Lib Jvm.Stand Jvm.Free Jvm.Free.XT
open Jvm.Lib.Cold (StaticIs)
abbrev ST : String := "java/lang/String"
/-- every table word that New1's law asks, flat -/
abbrev words : List Jvm.Cond := [.code New1.yN New1.yB 2 none, .initialized ST, .methodLink ST 27 New4.yN, .instanceMethod New4.yN,
  .code New4.yN New4.yB 6 none, .fieldLink ST 38 ST "COMPACT_STRINGS" "Z", .laysFinal ST ST "value" "[B", .fieldLink ST 9 ST "value" "[B", .laysFinal ST ST "coder" "B", .fieldLink ST 15 ST "coder" "B",
  .methodLink ST 1 Lib.objectInit, .instanceMethod Lib.objectInit, .code Lib.objectInit ⟨#[0xb1]⟩ 1 none, .methodLink ST 177 Cmp3.yN, .static Cmp3.yN, .methodLink ST 47 CodL.yN, .static CodL.yN,
  .code Cmp3.yN Cmp3.yB 6 (some (.array .byte)), .initialized U16, .arrayClass .byte, .methodLink U16 115 Cmp5.yN, .static Cmp5.yN, .code Cmp5.yN Cmp5.yB 7 (some .int), .code CodL.yN CodL.yB 2 (some .byte)]
theorem tab_of {a : Array Value} {s : State} (h : ∀ w ∈ words, w.before a s = true) : New1.tab.before a s = true := by
  have h5 : Cmp5.tab.before a s = true := unparts (wk h (.code Cmp5.yN Cmp5.yB 7 (some .int))) (wks h (.initialized Cmp5.yN.cls :: Cmp5.site))
  have hc : CodL.tab.before a s = true := unparts (wk h (.code CodL.yN CodL.yB 2 (some .byte))) (wks h (.initialized CodL.yN.cls :: CodL.site))
  have q5 : ∀ w ∈ Cmp5.tab :: words, w.before a s = true := fun w hw => (List.mem_cons.mp hw).elim (fun e => e ▸ h5) (h w)
  have h3 : Cmp3.tab.before a s = true := unparts (wk q5 (.code Cmp3.yN Cmp3.yB 6 (some (.array .byte)))) (wks q5 (.initialized Cmp3.yN.cls :: Cmp3.site))
  have q3 : ∀ w ∈ Cmp3.tab :: CodL.tab :: words, w.before a s = true := fun w hw => (List.mem_cons.mp hw).elim (fun e => e ▸ h3) fun hw => (List.mem_cons.mp hw).elim (fun e => e ▸ hc) (h w)
  have h4 : New4.tab.before a s = true := unparts (wk q3 (.code New4.yN New4.yB 6 none)) (wks q3 (.initialized New4.yN.cls :: New4.site))
  have q4 : ∀ w ∈ New4.tab :: words, w.before a s = true := fun w hw => (List.mem_cons.mp hw).elim (fun e => e ▸ h4) (h w)
  exact unparts (wk q4 (.code New1.yN New1.yB 2 none)) (wks q4 (.initialized New1.yN.cls :: New1.site))
/-- the words ride from the start Z to the walk's own state -/
theorem moved {Z s : State} {a0 args : Array Value} (hZ : Z.Warmed39 s.vm) (hw : ∀ d ∈ words, d.before a0 Z = true) : ∀ d ∈ words, d.before args s = true := fun d hd => by
  have q := hw d hd
  have t : ∀ d ∈ words, d = .arrayClass .byte ∨ (d.onTables && d.keepsFace) = true := by decide +kernel
  rcases t d hd with rfl | t
  · exact RoadKit.mvA hZ q
  · exact RoadKit.mv hZ q t
/-- WHAT COMES BACK, over the tables of the start Z: h the heap at the call, h' behind it -/
def Q (Z : State) (x : Addr) (A : Cell) (h : Heap) (v : Option Value) (h' : Heap) (L : List Loc) : Prop := v = none ∧ (∀ y ∈ L, y.base = x) ∧ RoadKit.Keep h h' [x] ∧ h'.size = h.size + 1 ∧ RoadKit.Exa Z h' x ST ∧ RoadKit.Fld Z h' x ST "value" "[B" (.ref h.size) ∧ RoadKit.Fld Z h' x ST "coder" "B" (.int 0) ∧
  (∃ V : Cell, RoadKit.Arr Z h' h.size V .byte ∧ V.vm = .none ∧ Z.vm.findClass "[B" = some V.cls ∧ V.slots.size = A.slots.size ∧ ∀ j, j < A.slots.size → V.slots[j]? = some (.int (lo8 (cv A j)))) ∧
  ∀ (O n d : String) (w : Value), RoadKit.Fld Z h x O n d w → RoadKit.slotOf Z O n d ≠ RoadKit.slotOf Z ST "value" "[B" → RoadKit.slotOf Z O n d ≠ RoadKit.slotOf Z ST "coder" "B" → RoadKit.Fld Z h' x O n d w
/-- **new String(chars) AT A CALL, IN THE ROAD'S FORM**: for specialBack behind newO: x the fresh String, b the char[] with the cell A -/
theorem back {p : Program} {l : Launch} {e : Env} {R : Room} {s : State} {args : Array Value} {below : List Frame} {len W : Nat} {Z : State} {a0 : Array Value} {h : Heap} (hZ : Z.Warmed39 s.vm) (hw : ∀ d ∈ words, d.before a0 Z = true) {kI : Nat} (wi : (Jvm.Cond.instantiable ST kI).before a0 Z = true)
    {x b : Addr} {A : Cell} {z : Int32} {v0 c0 : Value} (E : RoadKit.Exa Z h x ST) (V : RoadKit.Fld Z h x ST "value" "[B" v0) (C : RoadKit.Fld Z h x ST "coder" "B" c0) (K : RoadKit.Arr Z h b A .char) (hty : Typed .char A) (S : RoadKit.Sta Z h ST "COMPACT_STRINGS" "Z" (.int z)) (hz : ¬ z = 0)
    (l0 : 0 < A.slots.size) (l2 : A.slots.size ≤ 536870912) (hp : ∀ i, i < A.slots.size → ¬ 255 < cv A i) (hfr : 4 ≤ R.frames) (hlo : W + 65 ≤ R.locals) :
    Back l R p e below s args New1.yN len W (fun P a => a = #[.ref x, .ref b] ∧ P.U.heap = h ∧ P.cells + 1 ≤ R.cells ∧ P.slots + A.slots.size ≤ R.slots)
      (fun P _ v B => ∃ L, Q Z x A h v B.U.heap L ∧ B.locs = P.locs ++ L ∧ B.cells = P.cells + 1 ∧ B.slots = P.slots + A.slots.size) := by
  intro m meth c P g ig mk a X hg hsize hdg hW hn hp'
  obtain ⟨rfl, rfl, r1, r2⟩ := hp'
  have al : Z.vm.Alike P.U.vm := hZ.alike.trans X.warmed.alike
  obtain ⟨D, cfV, kV, iV, fV, hD, gV, stV, knV, obV, asV, slV⟩ := id V
  obtain ⟨D', cfC, kC, iC, fC, hD', gC, stC, -, -, asC, slC⟩ := id C
  cases hD.symm.trans hD'
  obtain ⟨D2, kD, e1, e2, e3, e4, e5⟩ := id E
  cases hD.symm.trans e1
  obtain ⟨c2, k2, i1, i2, i3, -⟩ := Cond.instantiable_spec wi
  cases e2.symm.trans i1
  cases e3.symm.trans i2
  obtain ⟨kU, u1, u2⟩ := al.2.2 _ _ e3
  have hB : Blank ST x D P.U := ⟨hD, ⟨knV, fun q hq => by rw [hq] at obV; cases obV⟩, by rw [al.findClass]; exact e2, kU, u1, by rw [u2]; exact i3, by rw [u2]; exact e5 i3⟩
  have F1 : Found ST "value" "[B" fV P.U := ⟨SBG.found_only al ⟨cfV, kV, iV, gV⟩, stV⟩
  have F2 : Found ST "coder" "B" fC P.U := ⟨SBG.found_only al ⟨cfC, kC, iC, gC⟩, stC⟩
  have hA : Ch b A P.U := ⟨⟨K.1, State.isArrayOf_alike al K.2.1, K.2.2, by omega⟩, hty⟩
  have hS : StaticIs P.U ST "COMPACT_STRINGS" "Z" (.int z) := by
    obtain ⟨cfS, iS, kS, fS, st, cS, t1, t2, t3, t4, t5, t6, t7⟩ := S
    exact StaticIs.there (s := { Z with heap := P.U.heap }) ⟨cfS, iS, kS, fS, st, cS, t1, t2, t3, t4, t5, (fun q => by rw [q] at t6; cases t6), t7⟩ al rfl
  obtain ⟨v, B, X', ⟨⟨hv, E', V', q1, q2, q3, q4, q5, q6, q7, q8, q9, q10, q11⟩, hl, hc, hs⟩, st⟩ := New1.pays x D fV fC b A z (tab_of (moved hZ hw)) hfr hlo m meth c P g ig mk _ X hg hsize hdg hW hn ⟨r1, r2, rfl, hB, F1, F2, hA, hS, hz, l0, l2, hp⟩
  have al' : Z.vm.Alike B.U.vm := hZ.alike.trans X'.warmed.alike
  have hsz : E'.slots.size = D.slots.size := by
    obtain ⟨-, -, -, kB, w1, w2, w3⟩ := q1
    obtain ⟨kB', y1, y2⟩ := al'.2.2 _ _ e3
    rw [q2.2.1] at w1
    cases w1.symm.trans y1
    rw [w3, e5 i3, y2]
  refine ⟨v, B, X', ⟨_, ⟨hv, ?_, ⟨by omega, fun y cy hy hn' => q10 y cy (by simpa using hn') hy, fun y cy hy => ?_⟩, q11, ⟨E', _, q1.1, by rw [q2.2.1]; exact e2, by rw [q2.2.1]; exact e3, by rw [q2.1]; exact obV, fun _ => by rw [hsz]; exact e5 i3⟩,
    ⟨E', cfV, kV, iV, fV, q1.1, gV, stV, by rw [q2.1]; exact knV, by rw [q2.1]; exact obV, by rw [q2.2.1]; exact asV, q3⟩, ⟨E', cfC, kC, iC, fC, q1.1, gC, stC, by rw [q2.1]; exact knV, by rw [q2.1]; exact obV, by rw [q2.2.1]; exact asC, q4⟩,
    ⟨V', ⟨q5.1, State.isArrayOf_alike al'.symm q5.2.1, q5.2.2.1⟩, q6, by rw [← al'.findClass]; exact q7, q8, fun j hj => by have := q9 j hj; rwa [Nat.zero_add] at this⟩, fun O n d w F n1 n2 => ?_⟩, hl, hc, hs⟩, st⟩
  · intro y hy
    simp only [List.mem_cons, List.not_mem_nil, or_false] at hy
    rcases hy with rfl | rfl <;> rfl
  · by_cases q : y = x
    · subst q
      cases hD.symm.trans hy
      exact ⟨E', q1.1, q2.2.1, q2.1, hsz⟩
    · exact ⟨cy, q10 y cy q hy, rfl, rfl, rfl⟩
  · obtain ⟨D3, cf, k, i, f, g1, g2, g3, g4, g5, g6, g7⟩ := F
    cases hD.symm.trans g1
    simp only [RoadKit.slotOf, g2, gV, gC, Option.map_some, Option.getD_some] at n1 n2
    exact ⟨E', cf, k, i, f, q1.1, g2, g3, by rw [q2.1]; exact g4, by rw [q2.1]; exact g5, by rw [q2.2.1]; exact g6, by rw [q2.2.2 f.slot (by simp [n1, n2])]; exact g7⟩
end StrChars.Road
namespace StrChars.Road
open Jvm Sem ClassFile Op Lib Jvm.Stand Jvm.Free Jvm.Free.XT
/-- WHAT COMES BACK, the byte[] as a list of values -/
def QA (Z : State) (x : Addr) (zn : Int32) (cs : List Int32) (h : Heap) (v : Option Value) (h' : Heap) (L : List Loc) : Prop := v = none ∧ (∀ y ∈ L, y.base = x) ∧ RoadKit.Keep h h' [x] ∧ h'.size = h.size + 1 ∧ RoadKit.Exa Z h' x ST ∧ RoadKit.Fld Z h' x ST "value" "[B" (.ref h.size) ∧ RoadKit.Fld Z h' x ST "coder" "B" (.int 0) ∧
  (∃ kb, Z.vm.findClass "[B" = some kb ∧ RoadKit.Arv Z h' h.size kb .byte zn (cs.map fun c => .int (lo8 c)) (.int 0)) ∧
  ∀ (O n d : String) (w : Value), RoadKit.Fld Z h x O n d w → RoadKit.slotOf Z O n d ≠ RoadKit.slotOf Z ST "value" "[B" → RoadKit.slotOf Z O n d ≠ RoadKit.slotOf Z ST "coder" "B" → RoadKit.Fld Z h' x O n d w
/-- **new String(chars) AT A CALL, THE ARRAYS AS LISTS**: the char[] at b holds cs, not empty, no char above 255 -/
theorem backArv {p : Program} {l : Launch} {e : Env} {R : Room} {s : State} {args : Array Value} {below : List Frame} {len W : Nat} {Z : State} {a0 : Array Value} {h : Heap} (hZ : Z.Warmed39 s.vm) (hw : ∀ d ∈ words, d.before a0 Z = true) {kI : Nat} (wi : (Jvm.Cond.instantiable ST kI).before a0 Z = true)
    {x b : Addr} {k : ClassId} {zn z : Int32} {cs : List Int32} {dv v0 c0 : Value} (E : RoadKit.Exa Z h x ST) (V : RoadKit.Fld Z h x ST "value" "[B" v0) (C : RoadKit.Fld Z h x ST "coder" "B" c0) (K : RoadKit.Arv Z h b k .char zn (cs.map Value.int) dv) (S : RoadKit.Sta Z h ST "COMPACT_STRINGS" "Z" (.int z)) (hz : ¬ z = 0)
    (hlen : zn.toNatClampNeg = cs.length) (h0 : 0 < cs.length) (hbig : cs.length ≤ 536870912) (hall : ∀ c ∈ cs, ¬ 255 < c) (hfr : 4 ≤ R.frames) (hlo : W + 65 ≤ R.locals) :
    Back l R p e below s args New1.yN len W (fun P a => a = #[.ref x, .ref b] ∧ P.U.heap = h ∧ P.cells + 1 ≤ R.cells ∧ P.slots + cs.length ≤ R.slots)
      (fun P _ v B => ∃ L, QA Z x zn cs h v B.U.heap L ∧ B.locs = P.locs ++ L ∧ B.cells = P.cells + 1 ∧ B.slots = P.slots + cs.length) := by
  obtain ⟨A, K1, K2, K3, K4, K5, K6⟩ := K
  have e : A.slots.size = cs.length := K3.trans hlen
  have hat : ∀ (i : Nat) (hi : i < cs.length), A.slots[i]? = some (.int cs[i]) := fun i hi => by rw [K5 i (by omega)]; simp [List.getD_eq_getElem?_getD, hi]
  have hcv : ∀ (i : Nat) (hi : i < cs.length), cv A i = cs[i] := fun i hi => by unfold cv; rw [hat i hi]
  have hty : Typed .char A := fun i v hv => by
    have hi : i < A.slots.size := (Array.getElem?_eq_some_iff.mp hv).1
    have q := K5 i hi
    rw [hv] at q
    rw [Option.some.inj q]
    exact K6 i hi
  refine Back.mono (back hZ hw wi E V C K1 hty S hz (by omega) (by omega) (fun i hi => by rw [hcv i (by omega)]; exact hall _ (List.getElem_mem _)) hfr hlo) (fun P a hp => ⟨hp.1, hp.2.1, hp.2.2.1, by rw [e]; exact hp.2.2.2⟩) (fun P a v B hp hq => ?_)
  obtain ⟨L, ⟨q1, q2, q3, q4, q5, q6, q7, ⟨V', v1, v2, v3, v4, v5⟩, q9⟩, hl, hc, hs⟩ := hq
  refine ⟨L, ⟨q1, q2, q3, q4, q5, q6, q7, ⟨V'.cls, v3, V', v1, rfl, by rw [v4, e, hlen], K4, fun i hi => ?_, fun i hi => ?_⟩, q9⟩, hl, hc, by rw [hs, e]⟩
  · have hi' : i < cs.length := by omega
    rw [v5 i (by omega), hcv i hi']; simp [List.getD_eq_getElem?_getD, hi']
  · have hi' : i < cs.length := by omega
    simp only [List.getD_eq_getElem?_getD, List.getElem?_map, List.getElem?_eq_getElem hi', Option.map_some, Option.getD_some]
    exact fits_lo8 _
end StrChars.Road
namespace StrChars.Road
open Jvm Sem ClassFile Op Lib Jvm.Stand Jvm.Free Jvm.Free.XT
/-- WHAT COMES BACK, in the writer's own shape -/
def QV (Z : State) (x : Addr) (N : Int32) (bs : List Int32) (h : Heap) (n0 : Nat) (v : Option Value) (h' : Heap) (L : List Loc) : Prop := v = none ∧ RoadKit.Fr n0 L ∧ RoadKit.Keep h h' [x] ∧ RoadKit.Exa Z h' x ST ∧ RoadKit.Fld Z h' x ST "coder" "B" (.int 0) ∧
  ∃ (t : Addr) (kb : ClassId), n0 ≤ t ∧ h.size ≤ t ∧ ¬ t = x ∧ RoadKit.Fld Z h' x ST "value" "[B" (.ref t) ∧ RoadKit.Arv Z h' t kb .byte N (bs.map Value.int) (.int 0)
/-- **new String(chars) AT A CALL, FOR THE WRITER**: a char[] of n known ints, each 0 to 255 -/
theorem backV {p : Program} {l : Launch} {e : Env} {R : Room} {s : State} {args : Array Value} {below : List Frame} {len W : Nat} {Z : State} {a0 : Array Value} {h : Heap} (hZ : Z.Warmed39 s.vm) (hw : ∀ d ∈ words, d.before a0 Z = true) {kI : Nat} (wi : (Jvm.Cond.instantiable ST kI).before a0 Z = true)
    {x b : Addr} {kC : ClassId} {cs bs : List Int32} {d v0 c0 : Value} {z N : Int32} {n n0 : Nat} (hx0 : n0 ≤ x) (hh0 : n0 ≤ h.size) (E : RoadKit.Exa Z h x ST) (V : RoadKit.Fld Z h x ST "value" "[B" v0) (C : RoadKit.Fld Z h x ST "coder" "B" c0) (K : RoadKit.Arv Z h b kC .char N (cs.map Value.int) d) (S : RoadKit.Sta Z h ST "COMPACT_STRINGS" "Z" (.int z)) (hz : ¬ z = 0)
    (hn : cs.length = n) (hN : N = Int32.ofNat n) (l0 : 0 < n) (l2 : n ≤ 4000) (hp : ∀ c ∈ cs, ¬ c < 0 ∧ ¬ (255 : Int32) < c) (hb : bs = cs.map (fun c => c.toInt8.toInt32)) (hfr : 4 ≤ R.frames) (hlo : W + 65 ≤ R.locals) :
    Back l R p e below s args (⟨"java/lang/String", "<init>", "([C)V"⟩ : MethodName) len W (fun P a => a = #[.ref x, .ref b] ∧ P.U.heap = h ∧ P.cells + 1 ≤ R.cells ∧ P.slots + n ≤ R.slots)
      (fun P _ v B => ∃ L, QV Z x N bs h n0 v B.U.heap L ∧ B.locs = P.locs ++ L ∧ B.cells = P.cells + 1 ∧ B.slots = P.slots + n) := by
  subst hn hN hb
  refine Back.mono (backArv hZ hw wi E V C K S hz (n32 (by omega)) l0 (by omega) (fun c hc => (hp c hc).2) hfr hlo) (fun P a hp => hp) (fun P a v B hp hq => ?_)
  obtain ⟨L, ⟨q1, q2, q3, q4, q5, q6, q7, ⟨kb, v1, v2⟩, q9⟩, hl, hc, hs⟩ := hq
  exact ⟨L, ⟨q1, fun y hy => by rw [q2 y hy]; exact hx0, q3, q5, q7, h.size, kb, hh0, Nat.le_refl _, Nat.ne_of_gt E.lt, q6, by rw [List.map_map]; exact v2⟩, hl, hc, hs⟩
end StrChars.Road
namespace StrChars
open Jvm Sem ClassFile Op Lib Jvm.Stand Jvm.Free.XT Jvm.Free.ALB Jvm.Free.JM Jvm.Free
open Jvm.Lib.Cold (StaticIs)
def hi8 (x : Int32) : Int32 := lo8 (x >>> ((8 : Int32) &&& 31))
/-- what StringUTF16.getChar makes of two bytes -/
def pairCh (u v : Int32) : Int32 := (((u &&& 255) <<< ((0 : Int32) &&& 31)) ||| ((v &&& 255) <<< ((8 : Int32) &&& 31))).toUInt32.toUInt16.toUInt32.toInt32
theorem lo8_and (x : Int32) : (lo8 x &&& 255).toBitVec.toNat = x.toBitVec.toNat % 256 := by
  have h : (lo8 x).toBitVec = (x.toBitVec.signExtend 8).signExtend 32 := by rw [lo8, Int8.toBitVec_toInt32, Int32.toBitVec_toInt8]
  rw [Int32.toBitVec_and, BitVec.toNat_and, h]
  have e : ((x.toBitVec.signExtend 8).signExtend 32).toNat % 256 = x.toBitVec.toNat % 256 := by
    rw [BitVec.toNat_signExtend]
    have hlt := x.toBitVec.isLt
    simp only [BitVec.toNat_setWidth, BitVec.toNat_signExtend]
    split <;> split <;> omega
  rw [← e]
  exact Nat.and_two_pow_sub_one_eq_mod _ 8
theorem pair_says {c : Int32} (h0 : ¬ c < 0) (h1 : ¬ 65535 < c) : pairCh (lo8 c) (hi8 c) = c := by
  rw [Int32.lt_iff_toInt_lt] at h0 h1
  have e0 : (0 : Int32).toInt = 0 := rfl
  have e1 : (65535 : Int32).toInt = 65535 := rfl
  have hc : c.toInt = c.toBitVec.toNat := by
    have := c.toBitVec.isLt
    have e : c.toInt = c.toBitVec.toInt := rfl
    rw [e] at h0 h1
    rw [e]
    rw [BitVec.toInt_eq_toNat_cond] at h0 h1 ⊢
    split at h0 <;> split <;> omega
  have hn : c.toBitVec.toNat < 65536 := by omega
  have a1 := lo8_and c
  have a2 : (hi8 c &&& 255).toBitVec.toNat = c.toBitVec.toNat / 256 := by
    rw [hi8, lo8_and]
    have e : ((8 : Int32) &&& 31) = 8 := by decide
    rw [e, Int32.toBitVec_shiftRight]
    have e2 : ((8 : Int32).toBitVec.smod 32) = 8#32 := by decide
    rw [e2, BitVec.sshiftRight_eq', BitVec.toNat_sshiftRight_of_msb_false (by rw [BitVec.msb_eq_false_iff_two_mul_lt]; omega)]
    show c.toBitVec.toNat >>> 8 % 256 = _
    rw [Nat.shiftRight_eq_div_pow]
    omega
  unfold pairCh
  apply Int32.toBitVec_inj.mp
  apply BitVec.eq_of_toNat_eq
  have f0 : ((0 : Int32) &&& 31) = 0 := by decide
  have f8 : ((8 : Int32) &&& 31) = 8 := by decide
  rw [f0, f8]
  have g : (((lo8 c &&& 255) <<< (0 : Int32)) ||| ((hi8 c &&& 255) <<< (8 : Int32))).toBitVec.toNat = c.toBitVec.toNat := by
    rw [Int32.toBitVec_or, Int32.toBitVec_shiftLeft, Int32.toBitVec_shiftLeft]
    have s0 : ((0 : Int32).toBitVec.smod 32) = 0#32 := by decide
    have s8 : ((8 : Int32).toBitVec.smod 32) = 8#32 := by decide
    rw [s0, s8, BitVec.toNat_or]
    simp only [BitVec.shiftLeft_eq', BitVec.toNat_shiftLeft, a1, a2]
    show (c.toBitVec.toNat % 256) <<< 0 % 2 ^ 32 ||| (c.toBitVec.toNat / 256) <<< 8 % 2 ^ 32 = _
    rw [Nat.shiftLeft_zero, Nat.mod_eq_of_lt (show c.toBitVec.toNat % 256 < 2 ^ 32 by omega), Nat.mod_eq_of_lt (show (c.toBitVec.toNat / 256) <<< 8 < 2 ^ 32 by rw [Nat.shiftLeft_eq]; omega), Nat.or_comm, ← Nat.shiftLeft_add_eq_or_of_lt (by omega), Nat.shiftLeft_eq]
    omega
  show BitVec.toNat (((((lo8 c &&& 255) <<< (0 : Int32)) ||| ((hi8 c &&& 255) <<< (8 : Int32))).toBitVec.setWidth 16).setWidth 32) = _
  rw [BitVec.toNat_setWidth, BitVec.toNat_setWidth, g]
  omega
end StrChars
namespace StrChars
open Jvm Sem ClassFile Op Lib Jvm.Stand Jvm.Free.XT Jvm.Free.ALB Jvm.Free.JM Jvm.Free
open Jvm.Lib.Cold (StaticIs)
/-- the array's cell V codes the n chars f 0 .. f (n - 1) by the coder cd, as the JDK does: coder 1 just where some char is above 255 -/
def Cod (cd : Int32) (n : Nat) (f : Nat → Int32) (V : Cell) : Prop := (cd = 0 ∧ V.slots.size = n ∧ ∀ j, j < n → V.slots[j]? = some (.int (lo8 (f j))) ∧ ¬ 255 < f j) ∨ (cd = 1 ∧ V.slots.size = 2 * n ∧ (∀ j, j < n → V.slots[2 * j]? = some (.int (lo8 (f j))) ∧ V.slots[2 * j + 1]? = some (.int (hi8 (f j)))) ∧ ∃ j, j < n ∧ 255 < f j)
/-- **x is a String of the n chars f 0 .. f (n - 1)**, Latin-1 or UTF-16; its array at t has the cell V -/
def Txt (x t : Addr) (V : Cell) (cd : Int32) (n : Nat) (f : Nat → Int32) (U : State) : Prop := Exact "java/lang/String" x U ∧ Has x "java/lang/String" "value" "[B" (.ref t) U ∧ Has x "java/lang/String" "coder" "B" (.int cd) U ∧ XT.Arr .byte t V U ∧ Cod cd n f V ∧ ∀ j, j < n → ¬ f j < 0 ∧ ¬ 65535 < f j
theorem Txt.mv {x t : Addr} {V : Cell} {cd : Int32} {n : Nat} {f : Nat → Int32} {U U' : State} (h : Txt x t V cd n f U) (hal : U.vm.Alike U'.vm) (hh : U'.heap = U.heap) : Txt x t V cd n f U' := ⟨h.1.mv hal hh, h.2.1.mv hal hh, h.2.2.1.mv hal hh, h.2.2.2.1.mv hal hh, h.2.2.2.2⟩
end StrChars
namespace StrChars.Road
open Jvm Sem ClassFile Op Lib Jvm.Stand Jvm.Free Jvm.Free.XT
open Jvm.Lib.Cold (StaticIs)
theorem consq {a : Array Value} {s : State} {c : Jvm.Cond} {L : List Jvm.Cond} (h0 : c.before a s = true) (h : ∀ w ∈ L, w.before a s = true) : ∀ w ∈ c :: L, w.before a s = true := fun w hw => (List.mem_cons.mp hw).elim (fun e => e ▸ h0) (h w)
/-- the bytes of the chars cs, low before high -/
def wideBytes : List Int32 → List Value
  | [] => []
  | c :: cs => .int (lo8 c) :: .int (hi8 c) :: wideBytes cs
theorem wide_lo (d : Value) : ∀ (cs : List Int32) (j : Nat), j < cs.length → (wideBytes cs).getD (2 * j) d = .int (lo8 (cs.getD j 0))
  | [], j, h => absurd h (Nat.not_lt_zero j)
  | c :: cs, 0, _ => rfl
  | c :: cs, j + 1, h => by
    have q := wide_lo d cs j (by simpa using h)
    rw [show 2 * (j + 1) = 2 * j + 1 + 1 from by omega]
    simpa [wideBytes] using q
theorem wide_hi (d : Value) : ∀ (cs : List Int32) (j : Nat), j < cs.length → (wideBytes cs).getD (2 * j + 1) d = .int (hi8 (cs.getD j 0))
  | [], j, h => absurd h (Nat.not_lt_zero j)
  | c :: cs, 0, _ => rfl
  | c :: cs, j + 1, h => by
    have q := wide_hi d cs j (by simpa using h)
    rw [show 2 * (j + 1) + 1 = 2 * j + 1 + 1 + 1 from by omega]
    simpa [wideBytes] using q
theorem low_at (d : Value) (cs : List Int32) (j : Nat) (h : j < cs.length) : (cs.map fun c => Value.int (lo8 c)).getD j d = .int (lo8 (cs.getD j 0)) := by
  simp [List.getD_eq_getElem?_getD, h]
/-- an array of N2 bytes vs codes the chars cs by the coder cd -/
def CodA (cs : List Int32) (cd N2 : Int32) (vs : List Value) : Prop := (cd = 0 ∧ N2 = Int32.ofNat cs.length ∧ vs = (cs.map fun c => Value.int (lo8 c)) ∧ ∀ c ∈ cs, ¬ 255 < c) ∨ (cd = 1 ∧ N2 = Int32.ofNat (2 * cs.length) ∧ vs = wideBytes cs ∧ ∃ c ∈ cs, 255 < c)
theorem CodA.cod {cs : List Int32} {cd N2 : Int32} {vs : List Value} {V : Cell} (h : CodA cs cd N2 vs) (hn : 2 * cs.length < 2 ^ 31) (hs : V.slots.size = N2.toNatClampNeg) (hv : RoadKit.Has V vs (.int 0)) : Cod cd cs.length (fun j => cs.getD j 0) V := by
  rcases h with ⟨rfl, rfl, rfl, h⟩ | ⟨rfl, rfl, rfl, c, hc, hw⟩
  · rw [n32 (by omega)] at hs
    exact Or.inl ⟨rfl, hs, fun j hj => ⟨by rw [hv j (by omega), low_at _ _ _ hj], by
      have e : cs.getD j 0 = cs[j] := by simp [List.getD_eq_getElem?_getD, hj]
      show ¬ 255 < cs.getD j 0
      rw [e]; exact h _ (List.getElem_mem _)⟩⟩
  · rw [n32 (by omega)] at hs
    obtain ⟨j, hj, rfl⟩ := List.getElem_of_mem hc
    exact Or.inr ⟨rfl, hs, fun j hj => ⟨by rw [hv _ (by omega), wide_lo _ _ _ hj], by rw [hv _ (by omega), wide_hi _ _ _ hj]⟩, j, hj, by
      have e : cs.getD j 0 = cs[j] := by simp [List.getD_eq_getElem?_getD, hj]
      show 255 < cs.getD j 0
      rw [e]; exact hw⟩
/-- an object of exactly java/lang/String, its two fields found: as the laws ask it -/
theorem strObj {Z U : State} {a0 : Array Value} {kI : Nat} (wi : (Jvm.Cond.instantiable ST kI).before a0 Z = true) (al : Z.vm.Alike U.vm) {x : Addr} {v0 c0 : Value} (E : RoadKit.Exa Z U.heap x ST) (V : RoadKit.Fld Z U.heap x ST "value" "[B" v0) (C : RoadKit.Fld Z U.heap x ST "coder" "B" c0) :
    ∃ (D : Cell) (fV fC : Field), Blank ST x D U ∧ Found ST "value" "[B" fV U ∧ Found ST "coder" "B" fC U ∧ D.slots[fV.slot]? = some v0 ∧ D.slots[fC.slot]? = some c0 ∧ RoadKit.slotOf Z ST "value" "[B" = fV.slot ∧ RoadKit.slotOf Z ST "coder" "B" = fC.slot := by
  obtain ⟨D, cfV, kV, iV, fV, hD, gV, stV, knV, obV, asV, slV⟩ := V
  obtain ⟨D', cfC, kC, iC, fC, hD', gC, stC, -, -, asC, slC⟩ := C
  cases hD.symm.trans hD'
  obtain ⟨D2, kD, e1, e2, e3, e4, e5⟩ := E
  cases hD.symm.trans e1
  obtain ⟨c2, k2, i1, i2, i3, -⟩ := Cond.instantiable_spec wi
  cases e2.symm.trans i1
  cases e3.symm.trans i2
  obtain ⟨kU, u1, u2⟩ := al.2.2 _ _ e3
  exact ⟨D, fV, fC, ⟨hD, ⟨knV, fun q hq => by rw [hq] at obV; cases obV⟩, by rw [al.findClass]; exact e2, kU, u1, by rw [u2]; exact i3, by rw [u2]; exact e5 i3⟩, ⟨SBG.found_only al ⟨cfV, kV, iV, gV⟩, stV⟩, ⟨SBG.found_only al ⟨cfC, kC, iC, gC⟩, stC⟩, slV, slC, by simp [RoadKit.slotOf, gV], by simp [RoadKit.slotOf, gC]⟩
theorem sta_is {Z U : State} (al : Z.vm.Alike U.vm) {C n d : String} {v : Value} (S : RoadKit.Sta Z U.heap C n d v) : StaticIs U C n d v := by
  obtain ⟨cfS, iS, kS, fS, st, cS, t1, t2, t3, t4, t5, t6, t7⟩ := S
  exact StaticIs.there (s := { Z with heap := U.heap }) ⟨cfS, iS, kS, fS, st, cS, t1, t2, t3, t4, t5, (fun q => by rw [q] at t6; cases t6), t7⟩ al rfl
end StrChars.Road
namespace StrChars
open Jvm Sem ClassFile Op Lib Jvm.Stand Jvm.Free.XT Jvm.Free.ALB Jvm.Free.JM Jvm.Free
open Jvm.Lib.Cold (StaticIs)
/-- what place i of a byte[]'s cell holds -/
def yv (A : Cell) (i : Nat) : Int32 := match A.slots[i]? with | some (.int x) => x | _ => 0
theorem yv_get {a : Addr} {A : Cell} {U : State} (h : XT.Arr .byte a A U) (ht : Typed .byte A) {i : Nat} (hi : i < A.slots.size) : A.slots[i]? = some (.int (yv A i)) := by
  have e := Array.getElem?_eq_getElem hi
  have f := ht i _ e
  unfold yv; rw [e]
  generalize A.slots[i] = v at f
  cases v <;> simp [fits] at f ⊢
/-- the two arrays are equal, place for place -/
def EqC (A B : Cell) : Prop := A.slots.size = B.slots.size ∧ ∀ i, i < A.slots.size → yv A i = yv B i
/-- a boolean that says whether p -/
def Says01 (q : Prop) (r : Option Value) (s u : State) : Prop := ∃ v : Int32, r = some (.int v) ∧ u.heap = s.heap ∧ ((v = 1 ∧ q) ∨ (v = 0 ∧ ¬ q))
theorem Says01.mv {q : Prop} : ∀ r (U U' V V' : State), U'.heap = U.heap → V.vm.Alike V'.vm → V'.heap = V.heap → Says01 q r U V → Says01 q r U' V' :=
  fun r U U' V V' h1 _ h2 ⟨v, a, b, c⟩ => ⟨v, a, by rw [h1, h2]; exact b, c⟩
namespace LEq
def yN : MethodName := ⟨"java/lang/StringLatin1", "equals", "([B[B)Z"⟩
abbrev yB : ByteArray := jdk_43_method_13_code
theorem d0 : decode yB 0 = .ok (.aload_n 0, 1) := by decide +kernel
theorem d1 : decode yB 1 = .ok (.arraylength, 1) := by decide +kernel
theorem d2 : decode yB 2 = .ok (.aload_n 1, 1) := by decide +kernel
theorem d3 : decode yB 3 = .ok (.arraylength, 1) := by decide +kernel
theorem d4 : decode yB 4 = .ok (.if_icmp (.ne) 30, 3) := by decide +kernel
theorem d7 : decode yB 7 = .ok (.iconst 0, 1) := by decide +kernel
theorem d8 : decode yB 8 = .ok (.istore_n 2, 1) := by decide +kernel
theorem d9 : decode yB 9 = .ok (.iload_n 2, 1) := by decide +kernel
theorem d10 : decode yB 10 = .ok (.aload_n 0, 1) := by decide +kernel
theorem d11 : decode yB 11 = .ok (.arraylength, 1) := by decide +kernel
theorem d12 : decode yB 12 = .ok (.if_icmp (.ge) 20, 3) := by decide +kernel
theorem d15 : decode yB 15 = .ok (.aload_n 0, 1) := by decide +kernel
theorem d16 : decode yB 16 = .ok (.iload_n 2, 1) := by decide +kernel
theorem d17 : decode yB 17 = .ok (.baload, 1) := by decide +kernel
theorem d18 : decode yB 18 = .ok (.aload_n 1, 1) := by decide +kernel
theorem d19 : decode yB 19 = .ok (.iload_n 2, 1) := by decide +kernel
theorem d20 : decode yB 20 = .ok (.baload, 1) := by decide +kernel
theorem d21 : decode yB 21 = .ok (.if_icmp (.eq) 5, 3) := by decide +kernel
theorem d24 : decode yB 24 = .ok (.iconst 0, 1) := by decide +kernel
theorem d25 : decode yB 25 = .ok (.ireturn, 1) := by decide +kernel
theorem d26 : decode yB 26 = .ok (.iinc 2 1, 3) := by decide +kernel
theorem d29 : decode yB 29 = .ok (.goto (-20), 3) := by decide +kernel
theorem d32 : decode yB 32 = .ok (.iconst 1, 1) := by decide +kernel
theorem d33 : decode yB 33 = .ok (.ireturn, 1) := by decide +kernel
theorem d34 : decode yB 34 = .ok (.iconst 0, 1) := by decide +kernel
theorem d35 : decode yB 35 = .ok (.ireturn, 1) := by decide +kernel
def site : List Cond := []
def tab : Cond := tabOf yN yB 3 (some .boolean) site
def P (a : Addr) (A : Cell) (b : Addr) (B : Cell) (args : Array Value) (s : State) : Prop := args = #[.ref a, .ref b] ∧ XT.Arr .byte a A s ∧ Typed .byte A ∧ XT.Arr .byte b B s ∧ Typed .byte B
/-- whether two byte[] are equal, place for place -/
theorem law (l : Launch) (a : Addr) (A : Cell) (b : Addr) (B : Cell) : Law l yN 2 2 0 0 yB 3 (some .boolean) site (P a A b B) (Says01 (EqC A B)) [] 0 0 := by
  refine Law.of_walk (plainFor_of_name (by decide +kernel)) (by decide +kernel) (by decide +kernel) (by decide) (fun _ _ h => by rw [h.1]; rfl) (fun _ U U' hal hh h => ⟨h.1, h.2.1.mv hal hh, h.2.2.1, h.2.2.2.1.mv hal hh, h.2.2.2.2⟩) (fun r U U' V V' h1 hal h2 h => Says01.mv r U U' V V' h1 hal h2 h) ?_
  intro p e s m args below meth c s₁ X0 hexec hbytes hml hret hlk hnm hown hh0 W hP
  obtain ⟨rfl, hA, tA, hB, tB⟩ := hP
  have a31 := hA.2.2.2
  have b31 := hB.2.2.2
  have hA0 := hA.mv X0.warmed.alike hh0
  have hB0 := hB.mv X0.warmed.alike hh0
  have c1 : Steps p.tables e below (s₁.setTop (entryFrame m #[.ref a, .ref b] 3)) (s₁.setTop (mkF m 0 #[.val (.ref a), .val (.ref b), .unset] [])) := entry rfl
  have c2 : Steps p.tables e below (s₁.setTop (entryFrame m #[.ref a, .ref b] 3)) (s₁.setTop (mkF m 4 #[.val (.ref a), .val (.ref b), .unset] [.int (Int32.ofNat B.slots.size), .int (Int32.ofNat A.slots.size)])) := c1.trans (by
    refine XS.aloadN X0.here hexec rfl (hb hbytes d0) rfl rfl ?_
    refine X0.alen hexec hA0 rfl rfl (hb hbytes d1) ?_
    refine XS.aloadN X0.here hexec rfl (hb hbytes d2) rfl rfl ?_
    refine X0.alen hexec hB0 rfl rfl (hb hbytes d3) ?_
    exact Steps.refl _)
  by_cases hs : A.slots.size = B.slots.size
  · have c3 : Steps p.tables e below (s₁.setTop (entryFrame m #[.ref a, .ref b] 3)) (s₁.setTop (mkF m 9 #[.val (.ref a), .val (.ref b), .val (.int 0)] [])) := c2.trans (by
      refine XS.icmpNo X0.here hexec rfl (hb hbytes d4) rfl (ii_ne_f (by rw [hs])) ?_
      refine iconstV X0.here hexec rfl 0 (hb hbytes d7) (by decide) ?_
      refine XS.istoreN X0.here hexec rfl (hb hbytes d8) rfl rfl ?_
      exact Steps.refl _)
    have loop : ∀ (r i : Nat), i + r = A.slots.size → (∀ j, j < i → yv A j = yv B j) → Steps p.tables e below (s₁.setTop (entryFrame m #[.ref a, .ref b] 3)) (s₁.setTop (mkF m 9 #[.val (.ref a), .val (.ref b), .val (.int (Int32.ofNat i))] [])) → ∃ (pc : Nat) (Ls : Array Slot) (v : Int32), (pc = 25 ∨ pc = 33) ∧ ((v = 1 ∧ EqC A B) ∨ (v = 0 ∧ ¬ EqC A B)) ∧ Steps p.tables e below (s₁.setTop (entryFrame m #[.ref a, .ref b] 3)) (s₁.setTop (mkF m pc Ls [.int v])) := by
      intro r
      induction r with
      | zero =>
        intro i hi he cl
        exact ⟨33, _, 1, Or.inr rfl, Or.inl ⟨rfl, hs, fun j hj => he j (by omega)⟩, cl.trans (by
          refine XS.iloadN X0.here hexec rfl (hb hbytes d9) rfl ?_
          refine XS.aloadN X0.here hexec rfl (hb hbytes d10) rfl rfl ?_
          refine X0.alen hexec hA0 rfl rfl (hb hbytes d11) ?_
          refine XS.icmpYes X0.here hexec rfl (pc0 := 12) rfl (hb hbytes d12) rfl (ii_ge_t (nlt32 (by omega) (by omega))) (by decide) rfl ?_
          refine iconstV X0.here hexec rfl 1 (hb hbytes d32) (by decide) ?_
          exact Steps.refl _)⟩
      | succ r ih =>
        intro i hi he cl
        have c4 : Steps p.tables e below (s₁.setTop (entryFrame m #[.ref a, .ref b] 3)) (s₁.setTop (mkF m 21 #[.val (.ref a), .val (.ref b), .val (.int (Int32.ofNat i))] [.int (yv B i), .int (yv A i)])) := cl.trans (by
          refine XS.iloadN X0.here hexec rfl (hb hbytes d9) rfl ?_
          refine XS.aloadN X0.here hexec rfl (hb hbytes d10) rfl rfl ?_
          refine X0.alen hexec hA0 rfl rfl (hb hbytes d11) ?_
          refine XS.icmpNo X0.here hexec rfl (hb hbytes d12) rfl (ii_ge_f (lt32 (by omega) (by omega))) ?_
          refine XS.aloadN X0.here hexec rfl (hb hbytes d15) rfl rfl ?_
          refine XS.iloadN X0.here hexec rfl (hb hbytes d16) rfl ?_
          refine X0.aget hexec hA0 rfl (yv_get hA tA (i := i) (by omega)) rfl rfl (hb hbytes d17) ?_
          refine XS.aloadN X0.here hexec rfl (hb hbytes d18) rfl rfl ?_
          refine XS.iloadN X0.here hexec rfl (hb hbytes d19) rfl ?_
          refine X0.aget hexec hB0 rfl (yv_get hB tB (i := i) (by omega)) rfl rfl (hb hbytes d20) ?_
          exact Steps.refl _)
        by_cases hv : yv A i = yv B i
        · have c5 : Steps p.tables e below (s₁.setTop (entryFrame m #[.ref a, .ref b] 3)) (s₁.setTop (mkF m 9 #[.val (.ref a), .val (.ref b), .val (.int (Int32.ofNat i + 1))] [])) := c4.trans (by
            refine XS.icmpYes X0.here hexec rfl (pc0 := 21) rfl (hb hbytes d21) rfl (ii_eq_t hv) (by decide) rfl ?_
            refine iincV X0.here hexec rfl 1 (hb hbytes d26) (by decide) rfl rfl ?_
            refine XS.goto X0.here hexec rfl (pc0 := 29) rfl (hb hbytes d29) (by decide) rfl ?_
            exact Steps.refl _)
          rw [succ32] at c5
          exact ih (i + 1) (by omega) (fun j hj => by
            by_cases e : j = i
            · rw [e]; exact hv
            · exact he j (by omega)) c5
        · exact ⟨25, _, 0, Or.inl rfl, Or.inr ⟨rfl, fun q => hv (q.2 i (by omega))⟩, c4.trans (by
            refine XS.icmpNo X0.here hexec rfl (hb hbytes d21) rfl (ii_eq_f hv) ?_
            refine iconstV X0.here hexec rfl 0 (hb hbytes d24) (by decide) ?_
            exact Steps.refl _)⟩
    obtain ⟨pc, Ls, v, hpc, hv, cz⟩ := loop A.slots.size 0 (by omega) (fun j hj => absurd hj (Nat.not_lt_zero j)) c3
    have nv : narrow .boolean (.int v) = .int v := by rcases hv with ⟨rfl, -⟩ | ⟨rfl, -⟩ <;> rfl
    rcases hpc with rfl | rfl
    · exact ⟨s₁, some (.int v), _, _, _, X0, rfl, rfl, rfl, (fun h => by cases h), ⟨v, rfl, hh0, hv⟩, fun fs hl => cz.trans (X0.ireturnOut hexec hret nv (Or.inr (Or.inl rfl)) (hb hbytes d25) hl)⟩
    · exact ⟨s₁, some (.int v), _, _, _, X0, rfl, rfl, rfl, (fun h => by cases h), ⟨v, rfl, hh0, hv⟩, fun fs hl => cz.trans (X0.ireturnOut hexec hret nv (Or.inr (Or.inl rfl)) (hb hbytes d33) hl)⟩
  · have c3 : Steps p.tables e below (s₁.setTop (entryFrame m #[.ref a, .ref b] 3)) (s₁.setTop (mkF m 35 #[.val (.ref a), .val (.ref b), .unset] [.int 0])) := c2.trans (by
      refine XS.icmpYes X0.here hexec rfl (pc0 := 4) rfl (hb hbytes d4) rfl (ii_ne_t (ne32 a31 b31 hs)) (by decide) rfl ?_
      refine iconstV X0.here hexec rfl 0 (hb hbytes d34) (by decide) ?_
      exact Steps.refl _)
    exact ⟨s₁, some (.int 0), _, _, _, X0, rfl, rfl, rfl, (fun h => by cases h), ⟨0, rfl, hh0, Or.inr ⟨rfl, fun q => hs q.1⟩⟩, fun fs hl => c3.trans (X0.ireturnOut hexec hret rfl (Or.inr (Or.inl rfl)) (hb hbytes d35) hl)⟩
end LEq
theorem Cod.ty {cd : Int32} {n : Nat} {f : Nat → Int32} {V : Cell} (h : Cod cd n f V) : Typed .byte V := fun i v hv => by
  have hi : i < V.slots.size := (Array.getElem?_eq_some_iff.mp hv).1
  rcases h with ⟨-, k1, k2⟩ | ⟨-, k1, k2, -⟩
  · rw [(k2 i (by omega)).1] at hv; cases hv; exact fits_lo8 _
  · rcases Nat.mod_two_eq_zero_or_one i with e | e
    · obtain ⟨j, rfl⟩ : ∃ j, i = 2 * j := ⟨i / 2, by omega⟩
      rw [(k2 j (by omega)).1] at hv; cases hv; exact fits_lo8 _
    · obtain ⟨j, rfl⟩ : ∃ j, i = 2 * j + 1 := ⟨i / 2, by omega⟩
      rw [(k2 j (by omega)).2] at hv; cases hv; exact fits_lo8 _
/-- the same text -/
def SameT (n : Nat) (f : Nat → Int32) (k : Nat) (g : Nat → Int32) : Prop := n = k ∧ ∀ j, j < n → f j = g j
theorem lo8_inj {x y : Int32} (h0 : ¬ x < 0) (h1 : ¬ 255 < x) (k0 : ¬ y < 0) (k1 : ¬ 255 < y) (h : lo8 x = lo8 y) : x = y := by
  rw [← lo8_mask h0 h1, ← lo8_mask k0 k1, h]
/-- arrays coded by one coder are equal just where the texts are -/
theorem Cod.eqv {cd : Int32} {n k : Nat} {f g : Nat → Int32} {V V' : Cell} (h : Cod cd n f V) (h' : Cod cd k g V') (hf : ∀ j, j < n → ¬ f j < 0 ∧ ¬ 65535 < f j) (hg : ∀ j, j < k → ¬ g j < 0 ∧ ¬ 65535 < g j) : EqC V V' ↔ SameT n f k g := by
  have yvv : ∀ {W : Cell} {i : Nat} {x : Int32}, W.slots[i]? = some (.int x) → yv W i = x := fun q => by unfold yv; rw [q]
  rcases h with ⟨rfl, k1, k2⟩ | ⟨rfl, k1, k2, -⟩
  · rcases h' with ⟨-, m1, m2⟩ | ⟨e, -⟩
    · constructor
      · rintro ⟨e1, e2⟩
        refine ⟨by omega, fun j hj => ?_⟩
        have q := e2 j (by omega)
        rw [yvv (k2 j hj).1, yvv (m2 j (by omega)).1] at q
        exact lo8_inj (hf j hj).1 (k2 j hj).2 (hg j (by omega)).1 (m2 j (by omega)).2 q
      · rintro ⟨rfl, e2⟩
        refine ⟨by omega, fun j hj => ?_⟩
        rw [yvv (k2 j (by omega)).1, yvv (m2 j (by omega)).1, e2 j (by omega)]
    · exact absurd e (by decide)
  · rcases h' with ⟨e, -⟩ | ⟨-, m1, m2, -⟩
    · exact absurd e (by decide)
    · constructor
      · rintro ⟨e1, e2⟩
        refine ⟨by omega, fun j hj => ?_⟩
        have q1 := e2 (2 * j) (by omega)
        have q2 := e2 (2 * j + 1) (by omega)
        rw [yvv (k2 j hj).1, yvv (m2 j (by omega)).1] at q1
        rw [yvv (k2 j hj).2, yvv (m2 j (by omega)).2] at q2
        rw [← pair_says (hf j hj).1 (hf j hj).2, ← pair_says (hg j (by omega)).1 (hg j (by omega)).2, q1, q2]
      · rintro ⟨rfl, e2⟩
        refine ⟨by omega, fun i hi => ?_⟩
        rcases Nat.mod_two_eq_zero_or_one i with e | e
        · obtain ⟨j, rfl⟩ : ∃ j, i = 2 * j := ⟨i / 2, by omega⟩
          rw [yvv (k2 j (by omega)).1, yvv (m2 j (by omega)).1, e2 j (by omega)]
        · obtain ⟨j, rfl⟩ : ∃ j, i = 2 * j + 1 := ⟨i / 2, by omega⟩
          rw [yvv (k2 j (by omega)).2, yvv (m2 j (by omega)).2, e2 j (by omega)]
/-- two codings differ: so do the texts -/
theorem Cod.dif {cd cd' : Int32} {n k : Nat} {f g : Nat → Int32} {V V' : Cell} (h : Cod cd n f V) (h' : Cod cd' k g V') (hne : ¬ cd = cd') : ¬ SameT n f k g := by
  rintro ⟨rfl, e⟩
  rcases h with ⟨rfl, -, k2⟩ | ⟨rfl, -, -, j, hj, hw⟩
  · rcases h' with ⟨rfl, -⟩ | ⟨-, -, -, j, hj, hw⟩
    · exact hne rfl
    · exact (k2 j hj).2 (by rw [e j hj]; exact hw)
  · rcases h' with ⟨-, -, m2⟩ | ⟨rfl, -⟩
    · exact (m2 j hj).2 (by rw [← e j hj]; exact hw)
    · exact hne rfl
/-- an object of exactly C is an instance of C -/
theorem cinst {p : Program} {l : Launch} {e : Env} {R : Room} {s : State} {m : MethodId} {args : Array Value} {below : List Frame} {meth : Method} {c : Code} {T : State} {locs : List Loc} {cells slots : Nat} (X : Stand p l e R s m args below meth c T locs cells slots) (hexec : p.tables.exec = Jvm.exec) {own C : String} {index : Nat} (hown : s.vm.findClass own = some m.cls) (hlink : (Cond.classLink own index C).before args s = true) {a : Addr} (hE : Exact C a T)
    {g : JFrame} (hg : g.method = m) {rest : List Value} (hstack : g.stack = .ref a :: rest) (hdg : decode c.code g.pc = .ok (.instanceof index, 3)) :
    ∃ T', Stand p l e R s m args below meth c T' locs cells slots ∧ T'.heap = T.heap ∧ ∀ target, Steps p.tables e below (T'.setTop { g with pc := g.pc + 3, stack := .int 1 :: rest }) target → Steps p.tables e below (T.setTop g) target := by
  obtain ⟨cB, h1, D, h2, h3, h4⟩ := hE
  have h1' : s.vm.findClass C = some cB := by rw [← X.warmed.alike.findClass]; exact h1
  obtain ⟨vm', X', st⟩ := X.instanceofYes hexec hown hlink h2 h4 h1' (by rw [h3]; exact Jvm.Free.SB.assignable_self _ _) hg hstack hdg
  exact ⟨_, X', rfl, st⟩
theorem cself {p : Program} {l : Launch} {e : Env} {R : Room} {s : State} {m : MethodId} {args : Array Value} {below : List Frame} {meth : Method} {c : Code} {T : State} {locs : List Loc} {cells slots : Nat} (X : Stand p l e R s m args below meth c T locs cells slots) (hexec : p.tables.exec = Jvm.exec) {own C : String} {index : Nat} (hown : s.vm.findClass own = some m.cls) (hlink : (Cond.classLink own index C).before args s = true) {a : Addr} (hE : Exact C a T)
    {g : JFrame} (hg : g.method = m) {rest : List Value} (hstack : g.stack = .ref a :: rest) (hdg : decode c.code g.pc = .ok (.checkcast index, 3)) :
    ∃ T', Stand p l e R s m args below meth c T' locs cells slots ∧ T'.heap = T.heap ∧ ∀ target, Steps p.tables e below (T'.setTop { g with pc := g.pc + 3, stack := .ref a :: rest }) target → Steps p.tables e below (T.setTop g) target := by
  obtain ⟨cB, h1, D, h2, h3, h4⟩ := hE
  have h1' : s.vm.findClass C = some cB := by rw [← X.warmed.alike.findClass]; exact h1
  obtain ⟨vm', X', st⟩ := X.checkcastYes hexec hown hlink h2 h4 h1' (by rw [h3]; exact Jvm.Free.SB.assignable_self _ _) hg hstack hdg
  exact ⟨_, X', rfl, fun t h => st t (by rw [← hstack] at h; exact h)⟩
namespace SEq
def yN : MethodName := ⟨"java/lang/String", "equals", "(Ljava/lang/Object;)Z"⟩
abbrev yB : ByteArray := jdk_42_method_66_code
theorem d0 : decode yB 0 = .ok (.aload_n 0, 1) := by decide +kernel
theorem d1 : decode yB 1 = .ok (.aload_n 1, 1) := by decide +kernel
theorem d2 : decode yB 2 = .ok (.if_acmp (.ne) 5, 3) := by decide +kernel
theorem d5 : decode yB 5 = .ok (.iconst 1, 1) := by decide +kernel
theorem d6 : decode yB 6 = .ok (.ireturn, 1) := by decide +kernel
theorem d7 : decode yB 7 = .ok (.aload_n 1, 1) := by decide +kernel
theorem d8 : decode yB 8 = .ok (.instanceof 10, 3) := by decide +kernel
theorem d11 : decode yB 11 = .ok (.ifCond (.eq) 43, 3) := by decide +kernel
theorem d14 : decode yB 14 = .ok (.aload_n 1, 1) := by decide +kernel
theorem d15 : decode yB 15 = .ok (.checkcast 10, 3) := by decide +kernel
theorem d18 : decode yB 18 = .ok (.astore_n 2, 1) := by decide +kernel
theorem d19 : decode yB 19 = .ok (.getstatic 38, 3) := by decide +kernel
theorem d22 : decode yB 22 = .ok (.ifCond (.eq) 14, 3) := by decide +kernel
theorem d25 : decode yB 25 = .ok (.aload_n 0, 1) := by decide +kernel
theorem d26 : decode yB 26 = .ok (.getfield 15, 3) := by decide +kernel
theorem d29 : decode yB 29 = .ok (.aload_n 2, 1) := by decide +kernel
theorem d30 : decode yB 30 = .ok (.getfield 15, 3) := by decide +kernel
theorem d33 : decode yB 33 = .ok (.if_icmp (.ne) 21, 3) := by decide +kernel
theorem d36 : decode yB 36 = .ok (.aload_n 0, 1) := by decide +kernel
theorem d37 : decode yB 37 = .ok (.getfield 9, 3) := by decide +kernel
theorem d40 : decode yB 40 = .ok (.aload_n 2, 1) := by decide +kernel
theorem d41 : decode yB 41 = .ok (.getfield 9, 3) := by decide +kernel
theorem d44 : decode yB 44 = .ok (.invokestatic 541, 3) := by decide +kernel
theorem d47 : decode yB 47 = .ok (.ifCond (.eq) 7, 3) := by decide +kernel
theorem d50 : decode yB 50 = .ok (.iconst 1, 1) := by decide +kernel
theorem d51 : decode yB 51 = .ok (.goto 4, 3) := by decide +kernel
theorem d54 : decode yB 54 = .ok (.iconst 0, 1) := by decide +kernel
theorem d55 : decode yB 55 = .ok (.ireturn, 1) := by decide +kernel
def site : List Cond := [.classLink "java/lang/String" 10 "java/lang/String", .fieldLink "java/lang/String" 38 "java/lang/String" "COMPACT_STRINGS" "Z", .fieldLink "java/lang/String" 15 "java/lang/String" "coder" "B", .fieldLink "java/lang/String" 9 "java/lang/String" "value" "[B", LEq.tab] ++ staticW "java/lang/String" 541 LEq.yN
def tab : Cond := tabOf yN yB 3 (some .boolean) site
def P (x t : Addr) (V : Cell) (cd : Int32) (n : Nat) (f : Nat → Int32) (y t' : Addr) (V' : Cell) (cd' : Int32) (k : Nat) (g : Nat → Int32) (z : Int32) (args : Array Value) (s : State) : Prop := args = #[.ref x, .ref y] ∧ Txt x t V cd n f s ∧ Txt y t' V' cd' k g s ∧ StaticIs s "java/lang/String" "COMPACT_STRINGS" "Z" (.int z) ∧ ¬ z = 0
/-- equals(Object) of two Strings: whether the texts are the same -/
theorem law (l : Launch) (x t : Addr) (V : Cell) (cd : Int32) (n : Nat) (f : Nat → Int32) (y t' : Addr) (V' : Cell) (cd' : Int32) (k : Nat) (g : Nat → Int32) (z : Int32) : Law l yN 2 1 1 14 yB 3 (some .boolean) site (P x t V cd n f y t' V' cd' k g z) (Says01 (SameT n f k g)) [] 0 0 := by
  refine Law.of_walk (plainFor_of_name (by decide +kernel)) (by decide +kernel) (by decide +kernel) (by decide) (fun _ _ h => by rw [h.1]; rfl) (fun _ U U' hal hh h => ⟨h.1, h.2.1.mv hal hh, h.2.2.1.mv hal hh, h.2.2.2.1.there hal hh, h.2.2.2.2⟩) (fun r U U' V V' h1 hal h2 h => Says01.mv r U U' V V' h1 hal h2 h) ?_
  intro p e s m args below meth c s₁ X0 hexec hbytes hml hret hlk hnm hown hh0 W hP
  obtain ⟨rfl, hx, hy, s1, hz⟩ := hP
  have c1 : Steps p.tables e below (s₁.setTop (entryFrame m #[.ref x, .ref y] 3)) (s₁.setTop (mkF m 2 #[.val (.ref x), .val (.ref y), .unset] [.ref y, .ref x])) := Steps.trans (entry rfl) (by
    show Steps p.tables e below (s₁.setTop (mkF m 0 #[.val (.ref x), .val (.ref y), .unset] [])) _
    refine XS.aloadN X0.here hexec rfl (hb hbytes d0) rfl rfl ?_
    refine XS.aloadN X0.here hexec rfl (hb hbytes d1) rfl rfl ?_
    exact Steps.refl _)
  by_cases hxy : x = y
  · have c2 : Steps p.tables e below (s₁.setTop (entryFrame m #[.ref x, .ref y] 3)) (s₁.setTop (mkF m 6 #[.val (.ref x), .val (.ref y), .unset] [.int 1])) := c1.trans (by
      refine acmpNo X0.here hexec rfl (hb hbytes d2) rfl rfl rfl (by simp [acmp, hxy]) ?_
      refine iconstV X0.here hexec rfl 1 (hb hbytes d5) (by decide) ?_
      exact Steps.refl _)
    subst hxy
    have ec : cd = cd' := by
      obtain ⟨D, fd, a1, a2, a3⟩ := hx.2.2.1
      obtain ⟨D', fd', b1, b2, b3⟩ := hy.2.2.1
      cases a1.symm.trans b1
      obtain ⟨q1, q2, q3, q4⟩ := a2.1
      obtain ⟨r1, r2, r3, r4⟩ := b2.1
      cases q4.symm.trans r4
      cases a3.symm.trans b3; rfl
    have et : t = t' := by
      obtain ⟨D, fd, a1, a2, a3⟩ := hx.2.1
      obtain ⟨D', fd', b1, b2, b3⟩ := hy.2.1
      cases a1.symm.trans b1
      obtain ⟨q1, q2, q3, q4⟩ := a2.1
      obtain ⟨r1, r2, r3, r4⟩ := b2.1
      cases q4.symm.trans r4
      cases a3.symm.trans b3; rfl
    subst ec et
    have ev : V = V' := by cases hx.2.2.2.1.1.symm.trans hy.2.2.2.1.1; rfl
    subst ev
    have hs : SameT n f k g := (Cod.eqv hx.2.2.2.2.1 hy.2.2.2.2.1 hx.2.2.2.2.2 hy.2.2.2.2.2).mp ⟨rfl, fun _ _ => rfl⟩
    exact ⟨s₁, some (.int 1), _, _, _, X0, rfl, rfl, rfl, (fun h => by cases h), ⟨1, rfl, hh0, Or.inl ⟨rfl, hs⟩⟩, fun fs hl => c2.trans (X0.ireturnOut hexec hret rfl (Or.inr (Or.inl rfl)) (hb hbytes d6) hl)⟩
  · have c2 : Steps p.tables e below (s₁.setTop (entryFrame m #[.ref x, .ref y] 3)) (s₁.setTop (mkF m 8 #[.val (.ref x), .val (.ref y), .unset] [.ref y])) := c1.trans (by
      refine acmpYes X0.here hexec rfl (pc0 := 2) rfl (hb hbytes d2) rfl rfl rfl (by simp [acmp, hxy]) (by decide) rfl ?_
      refine XS.aloadN X0.here hexec rfl (hb hbytes d7) rfl rfl ?_
      exact Steps.refl _)
    obtain ⟨T3, X3, q3, st3⟩ := cinst X0 hexec hown (wk W (.classLink "java/lang/String" 10 "java/lang/String")) (hy.mv X0.warmed.alike hh0).1 (g := (mkF m 8 #[.val (.ref x), .val (.ref y), .unset] [.ref y])) rfl (rest := []) rfl (hb hbytes d8)
    have hh3 := q3.trans hh0
    have c4 : Steps p.tables e below (s₁.setTop (entryFrame m #[.ref x, .ref y] 3)) (T3.setTop (mkF m 15 #[.val (.ref x), .val (.ref y), .unset] [.ref y])) := (c2.trans (st3 _ (Steps.refl _))).trans (by
      refine XS.ifNo X3.here hexec rfl (hb hbytes d11) rfl (i0_eq_f (by decide)) ?_
      refine XS.aloadN X3.here hexec rfl (hb hbytes d14) rfl rfl ?_
      exact Steps.refl _)
    obtain ⟨T5, X5, q5, st5⟩ := cself X3 hexec hown (wk W (.classLink "java/lang/String" 10 "java/lang/String")) (hy.mv X3.warmed.alike hh3).1 (g := (mkF m 15 #[.val (.ref x), .val (.ref y), .unset] [.ref y])) rfl (rest := []) rfl (hb hbytes d15)
    have hh5 := q5.trans hh3
    have c6 : Steps p.tables e below (s₁.setTop (entryFrame m #[.ref x, .ref y] 3)) (T5.setTop (mkF m 19 #[.val (.ref x), .val (.ref y), .val (.ref y)] [])) := (c4.trans (st5 _ (Steps.refl _))).trans (by
      refine XS.astoreN X5.here hexec rfl (hb hbytes d18) rfl rfl rfl ?_
      exact Steps.refl _)
    obtain ⟨T7, X7, q7, st7⟩ := X5.sget hexec hown (wk W (.fieldLink "java/lang/String" 38 "java/lang/String" "COMPACT_STRINGS" "Z")) s1 (fun _ _ h => by rw [hh5]; exact h) (g := (mkF m 19 #[.val (.ref x), .val (.ref y), .val (.ref y)] [])) rfl (hb hbytes d19)
    have hh7 := q7.trans hh5
    have c8 : Steps p.tables e below (s₁.setTop (entryFrame m #[.ref x, .ref y] 3)) (T7.setTop (mkF m 26 #[.val (.ref x), .val (.ref y), .val (.ref y)] [.ref x])) := (c6.trans (st7 _ (Steps.refl _))).trans (by
      refine XS.ifNo X7.here hexec rfl (hb hbytes d22) rfl (i0_eq_f hz) ?_
      refine XS.aloadN X7.here hexec rfl (hb hbytes d25) rfl rfl ?_
      exact Steps.refl _)
    obtain ⟨T9, X9, q9, st9⟩ := X7.hget hexec hown (wk W (.fieldLink "java/lang/String" 15 "java/lang/String" "coder" "B")) (hx.mv X7.warmed.alike hh7).2.2.1 (g := (mkF m 26 #[.val (.ref x), .val (.ref y), .val (.ref y)] [.ref x])) rfl (rest := []) rfl (hb hbytes d26)
    have hh9 := q9.trans hh7
    have c10 : Steps p.tables e below (s₁.setTop (entryFrame m #[.ref x, .ref y] 3)) (T9.setTop (mkF m 30 #[.val (.ref x), .val (.ref y), .val (.ref y)] [.ref y, .int cd])) := (c8.trans (st9 _ (Steps.refl _))).trans (by
      refine XS.aloadN X9.here hexec rfl (hb hbytes d29) rfl rfl ?_
      exact Steps.refl _)
    obtain ⟨T11, X11, q11, st11⟩ := X9.hget hexec hown (wk W (.fieldLink "java/lang/String" 15 "java/lang/String" "coder" "B")) (hy.mv X9.warmed.alike hh9).2.2.1 (g := (mkF m 30 #[.val (.ref x), .val (.ref y), .val (.ref y)] [.ref y, .int cd])) rfl (rest := [.int cd]) rfl (hb hbytes d30)
    have hh11 := q11.trans hh9
    have c12 : Steps p.tables e below (s₁.setTop (entryFrame m #[.ref x, .ref y] 3)) (T11.setTop (mkF m 33 #[.val (.ref x), .val (.ref y), .val (.ref y)] [.int cd', .int cd])) := c10.trans (st11 _ (Steps.refl _))
    by_cases hcd : cd = cd'
    · subst hcd
      have c13 : Steps p.tables e below (s₁.setTop (entryFrame m #[.ref x, .ref y] 3)) (T11.setTop (mkF m 37 #[.val (.ref x), .val (.ref y), .val (.ref y)] [.ref x])) := c12.trans (by
        refine XS.icmpNo X11.here hexec rfl (hb hbytes d33) rfl (ii_ne_f rfl) ?_
        refine XS.aloadN X11.here hexec rfl (hb hbytes d36) rfl rfl ?_
        exact Steps.refl _)
      obtain ⟨T14, X14, q14, st14⟩ := X11.hget hexec hown (wk W (.fieldLink "java/lang/String" 9 "java/lang/String" "value" "[B")) (hx.mv X11.warmed.alike hh11).2.1 (g := (mkF m 37 #[.val (.ref x), .val (.ref y), .val (.ref y)] [.ref x])) rfl (rest := []) rfl (hb hbytes d37)
      have hh14 := q14.trans hh11
      have c15 : Steps p.tables e below (s₁.setTop (entryFrame m #[.ref x, .ref y] 3)) (T14.setTop (mkF m 41 #[.val (.ref x), .val (.ref y), .val (.ref y)] [.ref y, .ref t])) := (c13.trans (st14 _ (Steps.refl _))).trans (by
        refine XS.aloadN X14.here hexec rfl (hb hbytes d40) rfl rfl ?_
        exact Steps.refl _)
      obtain ⟨T16, X16, q16, st16⟩ := X14.hget hexec hown (wk W (.fieldLink "java/lang/String" 9 "java/lang/String" "value" "[B")) (hy.mv X14.warmed.alike hh14).2.1 (g := (mkF m 41 #[.val (.ref x), .val (.ref y), .val (.ref y)] [.ref y, .ref t])) rfl (rest := [.ref t]) rfl (hb hbytes d41)
      have hh16 := q16.trans hh14
      have c17 : Steps p.tables e below (s₁.setTop (entryFrame m #[.ref x, .ref y] 3)) (T16.setTop (mkF m 44 #[.val (.ref x), .val (.ref y), .val (.ref y)] [.ref t', .ref t])) := c15.trans (st16 _ (Steps.refl _))
      obtain ⟨v18, T18, X18, E18, g18⟩ := X16.callS hexec (LEq.law l t V t' V') hown (wks W (staticW "java/lang/String" 541 LEq.yN)) (wk W LEq.tab) (W := 0) (Nat.le_of_ble_eq_true rfl) (Nat.le_of_ble_eq_true rfl) (Nat.le_refl _) (Nat.le_refl _) (g := (mkF m 44 #[.val (.ref x), .val (.ref y), .val (.ref y)] [.ref t', .ref t])) rfl (by rw [hml]; rfl) c17 (argsL := [.ref t, .ref t']) (rest := []) rfl rfl (by show 2 * 0 + 0 ≤ _; decide) (hb hbytes d44) (⟨rfl, hx.2.2.2.1.mv X16.warmed.alike hh16, hx.2.2.2.2.1.ty, hy.2.2.2.1.mv X16.warmed.alike hh16, hy.2.2.2.2.1.ty⟩)
      obtain ⟨v, rfl, q18, hv⟩ := E18
      have iff := Cod.eqv hx.2.2.2.2.1 hy.2.2.2.2.1 hx.2.2.2.2.2 hy.2.2.2.2.2
      rcases hv with ⟨rfl, he⟩ | ⟨rfl, he⟩
      · have c19 : Steps p.tables e below (s₁.setTop (entryFrame m #[.ref x, .ref y] 3)) (T18.setTop (mkF m 55 #[.val (.ref x), .val (.ref y), .val (.ref y)] [.int 1])) := Steps.trans g18 (by
          refine XS.ifNo X18.here hexec rfl (hb hbytes d47) rfl (i0_eq_f (by decide)) ?_
          refine iconstV X18.here hexec rfl 1 (hb hbytes d50) (by decide) ?_
          refine XS.goto X18.here hexec rfl (pc0 := 51) rfl (hb hbytes d51) (by decide) rfl ?_
          exact Steps.refl _)
        exact ⟨T18, some (.int 1), _, _, _, X18, rfl, rfl, rfl, (fun h => by cases h), ⟨1, rfl, q18.trans hh16, Or.inl ⟨rfl, iff.mp he⟩⟩, fun fs hl => c19.trans (X18.ireturnOut hexec hret rfl (Or.inr (Or.inl rfl)) (hb hbytes d55) hl)⟩
      · have c19 : Steps p.tables e below (s₁.setTop (entryFrame m #[.ref x, .ref y] 3)) (T18.setTop (mkF m 55 #[.val (.ref x), .val (.ref y), .val (.ref y)] [.int 0])) := Steps.trans g18 (by
          refine XS.ifYes X18.here hexec rfl (pc0 := 47) rfl (hb hbytes d47) rfl (i0_eq_t rfl) (by decide) rfl ?_
          refine iconstV X18.here hexec rfl 0 (hb hbytes d54) (by decide) ?_
          exact Steps.refl _)
        exact ⟨T18, some (.int 0), _, _, _, X18, rfl, rfl, rfl, (fun h => by cases h), ⟨0, rfl, q18.trans hh16, Or.inr ⟨rfl, fun q => he (iff.mpr q)⟩⟩, fun fs hl => c19.trans (X18.ireturnOut hexec hret rfl (Or.inr (Or.inl rfl)) (hb hbytes d55) hl)⟩
    · have c13 : Steps p.tables e below (s₁.setTop (entryFrame m #[.ref x, .ref y] 3)) (T11.setTop (mkF m 55 #[.val (.ref x), .val (.ref y), .val (.ref y)] [.int 0])) := c12.trans (by
        refine XS.icmpYes X11.here hexec rfl (pc0 := 33) rfl (hb hbytes d33) rfl (ii_ne_t hcd) (by decide) rfl ?_
        refine iconstV X11.here hexec rfl 0 (hb hbytes d54) (by decide) ?_
        exact Steps.refl _)
      exact ⟨T11, some (.int 0), _, _, _, X11, rfl, rfl, rfl, (fun h => by cases h), ⟨0, rfl, hh11, Or.inr ⟨rfl, Cod.dif hx.2.2.2.2.1 hy.2.2.2.2.1 hcd⟩⟩, fun fs hl => c13.trans (X11.ireturnOut hexec hret rfl (Or.inr (Or.inl rfl)) (hb hbytes d55) hl)⟩
theorem pays {l : Launch} {R : Room} {p : Program} {e : Env} {below : List Frame} {s : State} {sargs : Array Value} {len W : Nat} (x t : Addr) (V : Cell) (cd : Int32) (n : Nat) (f : Nat → Int32) (y t' : Addr) (V' : Cell) (cd' : Int32) (k : Nat) (g : Nat → Int32) (z : Int32) (htab : tab.before sargs s = true) (hfr : 2 ≤ R.frames) (hlo : W + 28 ≤ R.locals) :
    Back l R p e below s sargs yN len W (fun A₁ a₁ => A₁.cells + 0 ≤ R.cells ∧ A₁.slots + 0 ≤ R.slots ∧ P x t V cd n f y t' V' cd' k g z a₁ A₁.U) (fun A₁ _ v₁ B₁ => Says01 (SameT n f k g) v₁ A₁.U B₁.U ∧ B₁.locs = A₁.locs ++ [] ∧ B₁.cells = A₁.cells + 0 ∧ B₁.slots = A₁.slots + 0) :=
  (law l x t V cd n f y t' V' cd' k g z).pays htab hfr (by omega)
end SEq
end StrChars
namespace StrChars.Road
open Jvm Sem ClassFile Op Lib Jvm.Stand Jvm.Free Jvm.Free.XT
open Jvm.Lib.Cold (StaticIs)
/-- the words of String.equals(Object) -/
abbrev wordsEq : List Jvm.Cond := [.code SEq.yN SEq.yB 3 (some .boolean), .initialized ST, .classLink ST 10 ST, .fieldLink ST 38 ST "COMPACT_STRINGS" "Z", .fieldLink ST 15 ST "coder" "B", .fieldLink ST 9 ST "value" "[B", .methodLink ST 541 LEq.yN, .static LEq.yN, .code LEq.yN LEq.yB 3 (some .boolean), .initialized "java/lang/StringLatin1"]
theorem tabEq_of {a : Array Value} {s : State} (h : ∀ w ∈ wordsEq, w.before a s = true) : SEq.tab.before a s = true := by
  have hl : LEq.tab.before a s = true := unparts (wk h (.code LEq.yN LEq.yB 3 (some .boolean))) (wks h (.initialized LEq.yN.cls :: LEq.site))
  have q := consq hl h
  exact unparts (wk q (.code SEq.yN SEq.yB 3 (some .boolean))) (wks q (.initialized SEq.yN.cls :: SEq.site))
theorem movedEq {Z s : State} {a0 args : Array Value} (hZ : Z.Warmed39 s.vm) (hw : ∀ d ∈ wordsEq, d.before a0 Z = true) : ∀ d ∈ wordsEq, d.before args s = true := fun d hd => by
  have t : ∀ d ∈ wordsEq, (d.onTables && d.keepsFace) = true := by decide +kernel
  exact RoadKit.mv hZ (hw d hd) (t d hd)
/-- the road's facts of a String, as the laws ask it -/
theorem txt_of {Z U : State} {a0 : Array Value} {kI : Nat} (wi : (Jvm.Cond.instantiable ST kI).before a0 Z = true) (al : Z.vm.Alike U.vm) {x t : Addr} {kb : ClassId} {cs : List Int32} {cd N2 : Int32} {vs : List Value} (E : RoadKit.Exa Z U.heap x ST) (V : RoadKit.Fld Z U.heap x ST "value" "[B" (.ref t)) (C : RoadKit.Fld Z U.heap x ST "coder" "B" (.int cd)) (K : RoadKit.Arv Z U.heap t kb .byte N2 vs (.int 0)) (hc : CodA cs cd N2 vs) (hb : ∀ c ∈ cs, ¬ c < 0 ∧ ¬ (65535 : Int32) < c) (l2 : cs.length ≤ 4000) :
    ∃ A, Txt x t A cd cs.length (fun j => cs.getD j 0) U := by
  obtain ⟨A, K1, K2, K3, K4, K5, K6⟩ := K
  have hcod := hc.cod (by omega) K3 K5
  obtain ⟨D, fV, fC, hB, F1, F2, g1, g2, -, -⟩ := strObj wi al E V C
  exact ⟨A, ⟨_, hB.2.2.1, D, hB.1, rfl, by cases q : D.vm <;> first | rfl | exact absurd q (hB.2.1.2 _)⟩, Has.of hB F1 g1, Has.of hB F2 g2, ⟨K1.1, State.isArrayOf_alike al K1.2.1, K1.2.2, by rcases hcod with ⟨-, q, -⟩ | ⟨-, q, -⟩ <;> omega⟩, hcod, fun j hj => by
    have e : cs.getD j 0 = cs[j] := by simp [List.getD_eq_getElem?_getD, hj]
    show ¬ cs.getD j 0 < 0 ∧ ¬ 65535 < cs.getD j 0
    rw [e]; exact hb _ (List.getElem_mem _)⟩
theorem same_list (cs ds : List Int32) : SameT cs.length (fun j => cs.getD j 0) ds.length (fun j => ds.getD j 0) ↔ cs = ds := by
  constructor
  · rintro ⟨e, q⟩
    refine List.ext_getElem e fun j h1 h2 => ?_
    have := q j h1
    simpa [List.getD_eq_getElem?_getD, h1, h2] using this
  · rintro rfl
    exact ⟨rfl, fun _ _ => rfl⟩
/-- **equals(Object) OF TWO SUCH STRINGS**: 1 just where the chars are the same -/
theorem eqW {p : Program} {l : Launch} {e : Env} {R : Room} {s : State} {args : Array Value} {below : List Frame} {len W : Nat} {Z : State} {a0 : Array Value} {h : Heap} (hZ : Z.Warmed39 s.vm) (hw : ∀ d ∈ wordsEq, d.before a0 Z = true) {kI : Nat} (wi : (Jvm.Cond.instantiable ST kI).before a0 Z = true)
    {x t : Addr} {kb : ClassId} {cs : List Int32} {cd N2 : Int32} {vs : List Value} (E : RoadKit.Exa Z h x ST) (V : RoadKit.Fld Z h x ST "value" "[B" (.ref t)) (C : RoadKit.Fld Z h x ST "coder" "B" (.int cd)) (K : RoadKit.Arv Z h t kb .byte N2 vs (.int 0)) (hc : CodA cs cd N2 vs) (hb : ∀ c ∈ cs, ¬ c < 0 ∧ ¬ (65535 : Int32) < c) (l2 : cs.length ≤ 4000)
    {y t' : Addr} {kb' : ClassId} {ds : List Int32} {cd' N2' : Int32} {vs' : List Value} (E' : RoadKit.Exa Z h y ST) (V' : RoadKit.Fld Z h y ST "value" "[B" (.ref t')) (C' : RoadKit.Fld Z h y ST "coder" "B" (.int cd')) (K' : RoadKit.Arv Z h t' kb' .byte N2' vs' (.int 0)) (hc' : CodA ds cd' N2' vs') (hb' : ∀ c ∈ ds, ¬ c < 0 ∧ ¬ (65535 : Int32) < c) (l2' : ds.length ≤ 4000)
    {z : Int32} (S : RoadKit.Sta Z h ST "COMPACT_STRINGS" "Z" (.int z)) (hz : ¬ z = 0) (hfr : 2 ≤ R.frames) (hlo : W + 28 ≤ R.locals) :
    Back l R p e below s args (⟨"java/lang/String", "equals", "(Ljava/lang/Object;)Z"⟩ : MethodName) len W (fun P a => a = #[.ref x, .ref y] ∧ P.U.heap = h ∧ P.cells + 0 ≤ R.cells ∧ P.slots + 0 ≤ R.slots)
      (fun P _ v B => ∃ L, (((v = some (.int 1) ∧ cs = ds) ∨ (v = some (.int 0) ∧ ¬ cs = ds)) ∧ L = [] ∧ B.U.heap = h) ∧ B.locs = P.locs ++ L ∧ B.cells = P.cells + 0 ∧ B.slots = P.slots + 0) := by
  intro m meth c P g ig mk a X hg hsize hdg hW hn hp'
  obtain ⟨rfl, rfl, r1, r2⟩ := hp'
  have al : Z.vm.Alike P.U.vm := hZ.alike.trans X.warmed.alike
  obtain ⟨A, hx⟩ := txt_of wi al E V C K hc hb l2
  obtain ⟨A', hy⟩ := txt_of wi al E' V' C' K' hc' hb' l2'
  obtain ⟨v, B, X', ⟨⟨w, hv, hh, hq⟩, hl, hk, hs⟩, st⟩ := SEq.pays x t A cd cs.length (fun j => cs.getD j 0) y t' A' cd' ds.length (fun j => ds.getD j 0) z (tabEq_of (movedEq hZ hw)) hfr hlo m meth c P g ig mk _ X hg hsize hdg hW hn ⟨r1, r2, rfl, hx, hy, sta_is al S, hz⟩
  refine ⟨v, B, X', ⟨[], ⟨?_, rfl, hh⟩, hl, hk, hs⟩, st⟩
  rcases hq with ⟨rfl, q⟩ | ⟨rfl, q⟩
  · exact Or.inl ⟨hv, (same_list cs ds).mp q⟩
  · exact Or.inr ⟨hv, fun e => q ((same_list cs ds).mpr e)⟩
end StrChars.Road
namespace StrChars.Road
open Jvm Sem ClassFile Op Lib Jvm.Stand Jvm.Free Jvm.Free.XT
open Jvm.Lib.Cold (StaticIs)
/-- what backV says of its String, as the contracts of this text ask it: cs's low bytes, coder 0 -/
theorem codOf {cs : List Int32} {n : Nat} (hn : cs.length = n) (hb : ∀ c ∈ cs, ¬ 255 < c) : CodA cs 0 (Int32.ofNat n) ((cs.map lo8).map Value.int) := Or.inl ⟨rfl, by rw [hn], by simp [List.map_map, Function.comp_def], hb⟩
end StrChars.Road
end Jvm.Pilot.@@N@@
namespace Jvm.Pilot.@@N@@
open Jvm Jvm.ClassFile Sem Op Lib Jvm.Free Jvm.Stand Jvm.LawKit Jvm.RoadKit Bundle Jvm.Pilot.@@N@@.Jvm.D
theorem own_w {Z : State} {a0 : Array Value} {d : Jvm.Cond} (hw : ∀ d ∈ tables_1, d.before a0 Z = true) (i : Nat) (h : tables_1[i]? = some d) : d.before a0 Z = true := hw d (List.mem_of_getElem? h)
section OwnKit
variable {p : Program} {l : Launch} {e : Env} {R : Room} {s : State} {m : MethodId} {args : Array Value} {below : List Frame} {meth : Method} {c : Code} {T : State} {locs : List Loc} {cells slots : Nat}
/-- the run from S comes to an end of which Q holds -/
def own_Go (p : Program) (e : Env) (below : List Frame) (Q : Outcome → State → Prop) (S : State) : Prop := ∃ s₂ o, Steps p.tables e below S s₂ ∧ s₂.status = .running ∧ Ended s₂ below o ∧ Q o s₂
theorem own_via {Q : Outcome → State → Prop} {A B : State} (h : ∀ t, Steps p.tables e below B t → Steps p.tables e below A t) (g : own_Go p e below Q B) : own_Go p e below Q A := by
  obtain ⟨s2, o, h1, r⟩ := g
  exact ⟨s2, o, h _ h1, r⟩
theorem own_seq {Q : Outcome → State → Prop} {A B : State} (h : own_Go p e below Q B → own_Go p e below Q A) (k : own_Go p e below Q B) : own_Go p e below Q A := h k
theorem own_cast {Q : Outcome → State → Prop} {g g' : JFrame} (q : g = g') (k : own_Go p e below Q (T.setTop g')) : own_Go p e below Q (T.setTop g) := q ▸ k
theorem own_keep_mono {h0 h : Heap} {ws ws' : List Addr} (K : Keep h0 h ws) (q : ∀ x ∈ ws, x ∈ ws') : Keep h0 h ws' := ⟨K.1, fun x c a b => K.2.1 x c a fun z => b (q x z), K.2.2⟩
theorem own_ret0 {Qv : Option Value → Heap → List Loc → Prop} {kc ks : Nat} (X : Stand p l e R s m args below meth c T locs cells slots) (hlocks : meth.locks = false) (hx : p.tables.exec = Jvm.exec) {pc : Nat} {Ls : Array Slot} (hret : meth.sig.returnType = none) (hd : decode c.code pc = .ok (.return_, 1)) (hk : cells ≤ kc) (hs : slots ≤ ks) (hQ : Qv none T.heap locs) :
    own_Go p e below (fun o U' => ∃ v L, o = .returned v ∧ Qv v U'.heap L ∧ FrameEnd s o U' L kc ks) (T.setTop (mkF m pc Ls [])) := by
  obtain ⟨fs, hr, hrun, hended, hW, hsame⟩ := X.leave (v := none) (fun _ => rfl) hlocks
  exact ⟨_, _, X.returnOut hx hret hd hr, hrun, hended, _, _, rfl, hQ, ⟨_, rfl⟩, hW, hsame.mono hk hs⟩
theorem own_retv {Qv : Option Value → Heap → List Loc → Prop} {kc ks : Nat} (X : Stand p l e R s m args below meth c T locs cells slots) (hlocks : meth.locks = false) (hx : p.tables.exec = Jvm.exec) {pc : Nat} {Ls : Array Slot} {w : Value} {t : FieldType} {i : Instr} {rest : List Value} (hret : meth.sig.returnType = some t) (hn : narrow t w = w)
    (hi : (i = .ireturn ∧ (t = .int ∨ t = .boolean ∨ t = .byte ∨ t = .char ∨ t = .short) ∧ ∃ z, w = .int z) ∨ (i = .lreturn ∧ t = .long ∧ ∃ z, w = .long z) ∨ (i = .dreturn ∧ t = .double ∧ ∃ z, w = .double z) ∨ (i = .freturn ∧ t = .float ∧ ∃ z, w = .float z) ∨ (i = .areturn ∧ t.isReference = true ∧ w.isRef = true))
    (hd : decode c.code pc = .ok (i, 1)) (hk : cells ≤ kc) (hs : slots ≤ ks) (hQ : Qv (some w) T.heap locs) :
    own_Go p e below (fun o U' => ∃ v L, o = .returned v ∧ Qv v U'.heap L ∧ FrameEnd s o U' L kc ks) (T.setTop (mkF m pc Ls (w :: rest))) := by
  obtain ⟨fs, hr, hrun, hended, hW, hsame⟩ := X.leave (v := some w) (fun h => by rw [hret] at h; cases h) hlocks
  exact ⟨_, _, retOut X hx hret hn hi hd hr, hrun, hended, _, _, rfl, hQ, ⟨_, rfl⟩, hW, hsame.mono hk hs⟩
theorem own_pop2L {tb : Tables} [Ours tb] {e : Env} {below : List Frame} {T target : State} {m : MethodId} {c : Code} {g : JFrame} (h : At T m c below) (hx : tb.exec = Jvm.exec) (hg : g.method = m) {x : Int64} {rest : List Value} (hd : decode c.code g.pc = .ok (.pop2, 1)) (hs : g.stack = .long x :: rest)
    (hr : Steps tb e below (T.setTop { g with pc := g.pc + 1, stack := rest }) target) : Steps tb e below (T.setTop g) target := by
  subst hg
  jvm_step h [h.top, hx, hd, hs, Value.category]
  exact hr
theorem own_narR {t : FieldType} {w : Value} (h : w.isRef = true) : narrow t w = w := by
  rcases ref_cases h with rfl | ⟨y, rfl⟩ <;> cases t <;> rfl
theorem own_fitR {C : String} {w : Value} (h : w.isRef = true) : fits (.object C) w = true := by
  rcases ref_cases h with rfl | ⟨y, rfl⟩ <;> rfl
theorem own_fitA {t : FieldType} {w : Value} (h : w.isRef = true) : fits (.array t) w = true := by
  rcases ref_cases h with rfl | ⟨y, rfl⟩ <;> rfl
end OwnKit

theorem own_hwords {Z : State} {a0 : Array Value} (hw : ∀ d ∈ tables_1, d.before a0 Z = true) : ∀ d ∈ StrChars.Road.words, d.before a0 Z = true := fun d hd => hw d ((by decide +kernel : ∀ d ∈ StrChars.Road.words, d ∈ tables_1) d hd)
theorem own_hwordsEq {Z : State} {a0 : Array Value} (hw : ∀ d ∈ tables_1, d.before a0 Z = true) : ∀ d ∈ StrChars.Road.wordsEq, d.before a0 Z = true := fun d hd => hw d ((by decide +kernel : ∀ d ∈ StrChars.Road.wordsEq, d ∈ tables_1) d hd)
/-- a String of known chars, each 0 to 255 -/
def own_Str (Z : State) (h : Heap) (a : Addr) (cs : List Int32) : Prop := Exa Z h a "java/lang/String" ∧ Fld Z h a "java/lang/String" "coder" "B" (.int 0) ∧ (∃ (t : Addr) (k : ClassId), Fld Z h a "java/lang/String" "value" "[B" (.ref t) ∧ Arv Z h t k .byte (Int32.ofNat cs.length) ((cs.map fun c => c.toInt8.toInt32).map Value.int) (.int 0)) ∧ (∀ c ∈ cs, ¬ c < 0 ∧ ¬ (255 : Int32) < c) ∧ cs.length ≤ 4000
theorem own_Str.keep0 {Z : State} {h h' : Heap} {a : Addr} {cs : List Int32} (F : own_Str Z h a cs) (K : Keep h h' []) : own_Str Z h' a cs := by
  obtain ⟨E, C, ⟨t, k, V, A⟩, r⟩ := F
  exact ⟨E.keep K, C.keep K nin0, ⟨t, k, V.keep K nin0, A.keep K nin0⟩, r⟩
/-- the cells at ws are objects, no Strings -/
def own_Off (Z : State) (h : Heap) (ws : List Addr) : Prop := ∀ b ∈ ws, ∃ (C : String) (n : Nat) (a0 : Array Value), Exa Z h b C ∧ C ≠ "java/lang/String" ∧ (Jvm.Cond.instantiable C n).before a0 Z = true
theorem own_off0 {Z : State} {h : Heap} : own_Off Z h [] := fun _ q => nomatch q
theorem own_offS {Z : State} {h : Heap} {b : Addr} {ws : List Addr} {C : String} {n : Nat} {a0 : Array Value} (E : Exa Z h b C) (hn : C ≠ "java/lang/String") (wi : (Jvm.Cond.instantiable C n).before a0 Z = true) (r : own_Off Z h ws) : own_Off Z h (b :: ws) := fun x q => (List.mem_cons.mp q).elim (fun u => u ▸ ⟨C, n, a0, E, hn, wi⟩) (r x)
theorem own_Str.keepO {Z : State} {h h' : Heap} {a : Addr} {cs : List Int32} {ws : List Addr} (F : own_Str Z h a cs) (K : Keep h h' ws) (O : own_Off Z h ws) : own_Str Z h' a cs := by
  obtain ⟨E, C, ⟨t, k, V, A⟩, r⟩ := F
  have na : a ∉ ws := fun q => by
    obtain ⟨D, n, a0, E', hn, wi⟩ := O a q
    exact Exa.ne E' E hn rfl
  have nt : t ∉ ws := fun q => by
    obtain ⟨D, n, a0, E', hn, wi⟩ := O t q
    exact Exa.neArv E' A wi rfl
  exact ⟨E.keep K, C.keep K na, ⟨t, k, V.keep K na, A.keep K nt⟩, r⟩
theorem own_up {cs : List Int32} (h : ∀ c ∈ cs, ¬ c < 0 ∧ ¬ (255 : Int32) < c) : ∀ c ∈ cs, ¬ c < 0 ∧ ¬ (65535 : Int32) < c := fun c hc => ⟨(h c hc).1, fun q => (h c hc).2 (by rw [Int32.lt_iff_toInt_lt] at q ⊢; have e1 : (65535 : Int32).toInt = 65535 := rfl; have e2 : (255 : Int32).toInt = 255 := rfl; omega)⟩
theorem own_255 {z : Int32} (h : ¬ z < 0 ∧ ¬ (255 : Int32) < z) : ∃ k : Fin 256, z = Int32.ofNat k.val := by
  obtain ⟨h1, h2⟩ := h
  rw [Int32.lt_iff_toInt_lt] at h1 h2
  have e1 : (0 : Int32).toInt = 0 := rfl
  have e2 : (255 : Int32).toInt = 255 := rfl
  refine ⟨⟨z.toInt.toNat, by omega⟩, ?_⟩
  apply Int32.toInt_inj.mp
  rw [Int32.toInt_ofNat_small (by show z.toInt.toNat < _; omega)]
  show _ = ((z.toInt.toNat : Nat) : Int)
  omega
theorem own_nar {z : Int32} (h : ¬ z < 0 ∧ ¬ (255 : Int32) < z) : nar .char z = z := by
  obtain ⟨k, rfl⟩ := own_255 h
  exact (by decide +kernel : ∀ k : Fin 256, nar .char (Int32.ofNat k.val) = Int32.ofNat k.val) k
theorem own_narV {z : Int32} (h : ¬ z < 0 ∧ ¬ (255 : Int32) < z) : narrow .char (.int z) = .int z := congrArg Value.int (own_nar h)

theorem own_chL (x : Int64) : ¬ ((x &&& (255 : Int64)).toInt32.toUInt32.toUInt16.toUInt32.toInt32) < 0 ∧ ¬ (255 : Int32) < ((x &&& (255 : Int64)).toInt32.toUInt32.toUInt16.toUInt32.toInt32) := by
  have t : ∀ k : Fin 256, ¬ ((Int64.ofNat k.val).toInt32.toUInt32.toUInt16.toUInt32.toInt32) < 0 ∧ ¬ (255 : Int32) < ((Int64.ofNat k.val).toInt32.toUInt32.toUInt16.toUInt32.toInt32) := by decide +kernel
  have h : (x &&& 255).toBitVec.toNat < 256 := by
    simp only [Int64.toBitVec_and, BitVec.toNat_and]
    exact Nat.lt_succ_of_le Nat.and_le_right
  have e : (x &&& 255) = Int64.ofNat (x &&& 255).toBitVec.toNat := by
    apply Int64.toBitVec_inj.mp
    show _ = BitVec.ofNat 64 _
    rw [BitVec.ofNat_toNat]; simp
  rw [e]
  exact t ⟨_, h⟩

theorem d1_0 : decode method_2_code 0 = .ok (.lload_n 0, 1) := by decide +kernel
theorem d1_1 : decode method_2_code 1 = .ok (.bipush 8, 2) := by decide +kernel
theorem d1_3 : decode method_2_code 3 = .ok (.iload_n 2, 1) := by decide +kernel
theorem d1_4 : decode method_2_code 4 = .ok (.imul, 1) := by decide +kernel
theorem d1_5 : decode method_2_code 5 = .ok (.lushr, 1) := by decide +kernel
theorem d1_6 : decode method_2_code 6 = .ok (.ldc2_w 7, 3) := by decide +kernel
theorem d1_9 : decode method_2_code 9 = .ok (.land, 1) := by decide +kernel
theorem d1_10 : decode method_2_code 10 = .ok (.l2i, 1) := by decide +kernel
theorem d1_11 : decode method_2_code 11 = .ok (.i2c, 1) := by decide +kernel
theorem d1_12 : decode method_2_code 12 = .ok (.ireturn, 1) := by decide +kernel
theorem pn_com_example_kworum_kworum_model_EntryEqualsPinLaw : plainName "com/example/kworum/kworum/model/EntryEqualsPinLaw" = true := by first | (simp [plainName, overriddenIn]; done) | decide +kernel
theorem ef_ch (m : MethodId) (q1 : Int64) (p2 : Int32) : entryFrame m #[(.long q1), (.int p2)] 3 = mkF m 0 #[.val (.long q1), .second, .val (.int p2)] [] := by first | (simp [entryFrame, mkF, argsToLocals, Value.category]; done) | rfl
def Qch (Z : State) (q1 : Int64) (p2 : Int32) (h0 : Heap) (n0 : Nat) (v : Option Value) (h : Heap) (L : List Loc) : Prop := ∃ z : Int32, v = some (.int z) ∧ Fr n0 L ∧ h = h0 ∧ (¬ z < 0 ∧ ¬ (255 : Int32) < z)
set_option maxRecDepth 65536 in
set_option maxHeartbeats 40000000 in
theorem rmch (l : Launch) (Z : State) (a0 : Array Value) (hw : ∀ d ∈ tables_1, d.before a0 Z = true) (ws : List Jvm.Cond) (q1 : Int64) (p2 : Int32) (h0 : Heap) (n0 : Nat) (Z0 : n0 ≤ h0.size) :
    MetFree l (⟨"com/example/kworum/kworum/model/EntryEqualsPinLaw", "ch", "(JI)C"⟩ : MethodName) (head1 (Jvm.Cond.code (⟨"com/example/kworum/kworum/model/EntryEqualsPinLaw", "ch", "(JI)C"⟩ : MethodName) method_2_code 3 (some .char) :: ws) ({ frames := 0, cells := 0, slots := 0, locals := 0 } : Room)) (fun a U => a = #[(.long q1), (.int p2)] ∧ Z.Warmed39 U.vm ∧ U.heap = h0) (fun _ _ _ _ _ => True) (fun _ U o U' => ∃ v L, o = .returned v ∧ Qch Z q1 p2 h0 n0 v U'.heap L ∧ FrameEnd U o U' L ({ frames := 0, cells := 0, slots := 0, locals := 0 } : Room).cells ({ frames := 0, cells := 0, slots := 0, locals := 0 } : Room).slots) := by
  refine MetFree.of_bodySF (plainFor_of_name pn_com_example_kworum_kworum_model_EntryEqualsPinLaw) hisR ?_
  intro p e s m args below meth c s₁ Bd hml0 hP hK
  obtain ⟨rfl, hZ, hH0⟩ := hP
  have hx := Bd.exec
  have hby := Bd.bytes
  have hml : c.maxLocals = 3 := hml0
  have hown : s.vm.findClass "com/example/kworum/kworum/model/EntryEqualsPinLaw" = some m.cls := findClass_of_methodNamed Bd.named
  have hnm := (name_of_methodNamed Bd.named Bd.method).1
  have X0 : Stand p l e ({ frames := 0, cells := 0, slots := 0, locals := 0 } : Room) s m #[(.long q1), (.int p2)] below meth c s₁ [] 0 0 := Stand.of_body Bd
  have e0 : s₁.heap = h0 := by rw [← hH0, Bd.state]; rfl
  have N0 := Fr.nil n0
  refine own_cast (ef_ch m q1 p2) ?_
  show own_Go p e below (fun o U' => ∃ v L, o = .returned v ∧ Qch Z q1 p2 h0 n0 v U'.heap L ∧ FrameEnd s o U' L ({ frames := 0, cells := 0, slots := 0, locals := 0 } : Room).cells ({ frames := 0, cells := 0, slots := 0, locals := 0 } : Room).slots) (s₁.setTop (mkF m 0 #[.val (.long q1), .second, .val (.int p2)] []))
  refine own_via (fun _ => XS.lloadN X0.here hx rfl (hb hby d1_0) rfl) ?_
  show own_Go p e below _ (s₁.setTop (mkF m 1 #[.val (.long q1), .second, .val (.int p2)] [(.long q1)]))
  refine own_via (fun _ => XS.bipush X0.here hx rfl (hb hby d1_1)) ?_
  show own_Go p e below _ (s₁.setTop (mkF m 3 #[.val (.long q1), .second, .val (.int p2)] [(.int (8 : Int32)), (.long q1)]))
  refine own_via (fun _ => XS.iloadN X0.here hx rfl (hb hby d1_3) rfl) ?_
  show own_Go p e below _ (s₁.setTop (mkF m 4 #[.val (.long q1), .second, .val (.int p2)] [(.int p2), (.int (8 : Int32)), (.long q1)]))
  refine own_via (fun _ => XS.imul X0.here hx rfl (hb hby d1_4) rfl) ?_
  show own_Go p e below _ (s₁.setTop (mkF m 5 #[.val (.long q1), .second, .val (.int p2)] [(.int ((8 : Int32) * p2)), (.long q1)]))
  refine own_via (fun _ => XS.lushr X0.here hx rfl (hb hby d1_5) rfl) ?_
  show own_Go p e below _ (s₁.setTop (mkF m 6 #[.val (.long q1), .second, .val (.int p2)] [(.long ((q1.toUInt64 >>> (((8 : Int32) * p2) &&& 0x3f).toInt64.toUInt64).toInt64))]))
  refine own_via (X0.ldc2Long hx hown (mvT hZ (own_w hw 4 rfl)) (g := (mkF m 6 #[.val (.long q1), .second, .val (.int p2)] [(.long ((q1.toUInt64 >>> (((8 : Int32) * p2) &&& 0x3f).toInt64.toUInt64).toInt64))])) rfl (hb hby d1_6)) ?_
  show own_Go p e below _ (s₁.setTop (mkF m 9 #[.val (.long q1), .second, .val (.int p2)] [(.long (255 : Int64)), (.long ((q1.toUInt64 >>> (((8 : Int32) * p2) &&& 0x3f).toInt64.toUInt64).toInt64))]))
  refine own_via (fun _ => XS.land X0.here hx rfl (hb hby d1_9) rfl) ?_
  show own_Go p e below _ (s₁.setTop (mkF m 10 #[.val (.long q1), .second, .val (.int p2)] [(.long (((q1.toUInt64 >>> (((8 : Int32) * p2) &&& 0x3f).toInt64.toUInt64).toInt64) &&& (255 : Int64)))]))
  refine own_via (fun _ => XS.l2i X0.here hx rfl (hb hby d1_10) rfl) ?_
  show own_Go p e below _ (s₁.setTop (mkF m 11 #[.val (.long q1), .second, .val (.int p2)] [(.int ((((q1.toUInt64 >>> (((8 : Int32) * p2) &&& 0x3f).toInt64.toUInt64).toInt64) &&& (255 : Int64)).toInt32))]))
  refine own_via (fun _ => XS.i2c X0.here hx rfl (hb hby d1_11) rfl) ?_
  show own_Go p e below _ (s₁.setTop (mkF m 12 #[.val (.long q1), .second, .val (.int p2)] [(.int (((((q1.toUInt64 >>> (((8 : Int32) * p2) &&& 0x3f).toInt64.toUInt64).toInt64) &&& (255 : Int64)).toInt32).toUInt32.toUInt16.toUInt32.toInt32))]))
  exact own_retv X0 Bd.notSynchronized hx Bd.returns (own_narV (own_chL _)) (Or.inl ⟨rfl, (by simp), _, rfl⟩) (hb hby d1_12) (by decide) (by decide) (by rw [e0]; exact ⟨(((((q1.toUInt64 >>> (((8 : Int32) * p2) &&& 0x3f).toInt64.toUInt64).toInt64) &&& (255 : Int64)).toInt32).toUInt32.toUInt16.toUInt32.toInt32), rfl, N0, rfl, own_chL _⟩)
theorem own_one {x : Int32} (h : ¬ x < 0 ∧ ¬ (255 : Int32) < x) : ∀ c ∈ ([x] : List Int32), ¬ c < 0 ∧ ¬ (255 : Int32) < c := by
  intro c hc
  obtain rfl := List.mem_singleton.mp hc
  exact h

theorem d2_0 : decode method_3_code 0 = .ok (.iconst 1, 1) := by decide +kernel
theorem d2_1 : decode method_3_code 1 = .ok (.newarray .char, 2) := by decide +kernel
theorem d2_3 : decode method_3_code 3 = .ok (.astore_n 1, 1) := by decide +kernel
theorem d2_4 : decode method_3_code 4 = .ok (.aload_n 1, 1) := by decide +kernel
theorem d2_5 : decode method_3_code 5 = .ok (.iconst 0, 1) := by decide +kernel
theorem d2_6 : decode method_3_code 6 = .ok (.iload_n 0, 1) := by decide +kernel
theorem d2_7 : decode method_3_code 7 = .ok (.castore, 1) := by decide +kernel
theorem d2_8 : decode method_3_code 8 = .ok (.new 9, 3) := by decide +kernel
theorem d2_11 : decode method_3_code 11 = .ok (.dup, 1) := by decide +kernel
theorem d2_12 : decode method_3_code 12 = .ok (.aload_n 1, 1) := by decide +kernel
theorem d2_13 : decode method_3_code 13 = .ok (.invokespecial 11, 3) := by decide +kernel
theorem d2_16 : decode method_3_code 16 = .ok (.areturn, 1) := by decide +kernel
theorem pd_0 : parseMethodDescriptor "([C)V" = some ⟨[(.array .char)], none⟩ := by decide +kernel
theorem ef_s (m : MethodId) (p1 : Int32) : entryFrame m #[(.int p1)] 2 = mkF m 0 #[.val (.int p1), .unset] [] := by first | (simp [entryFrame, mkF, argsToLocals, Value.category]; done) | rfl
def Qs (Z : State) (p1 : Int32) (cs : Int32) (h0 : Heap) (n0 : Nat) (v : Option Value) (h : Heap) (L : List Loc) : Prop := ∃ r : Addr, v = some (.ref r) ∧ Fr n0 L ∧ Keep h0 h [] ∧ (h0.size ≤ r) ∧ (Exa Z h r "java/lang/String") ∧ (own_Str Z h r [p1])
set_option maxRecDepth 65536 in
set_option maxHeartbeats 40000000 in
theorem rms (l : Launch) (Z : State) (a0 : Array Value) (hw : ∀ d ∈ tables_1, d.before a0 Z = true) (ws : List Jvm.Cond) (p1 : Int32) (cs : Int32) (h0 : Heap) (n0 : Nat) (Z0 : n0 ≤ h0.size) (O0 : Old Z n0 h0) (Scs : Sta Z Z.heap "java/lang/String" "COMPACT_STRINGS" "Z" (.int cs)) (hcs : ¬ (cs = (0 : Int32))) (hb1 : ¬ p1 < 0 ∧ ¬ (255 : Int32) < p1) :
    MetFree l (⟨"com/example/kworum/kworum/model/EntryEqualsPinLaw", "s", "(C)Ljava/lang/String;"⟩ : MethodName) (head1 (Jvm.Cond.code (⟨"com/example/kworum/kworum/model/EntryEqualsPinLaw", "s", "(C)Ljava/lang/String;"⟩ : MethodName) method_3_code 2 (some (.object "java/lang/String")) :: ws) ({ frames := 4, cells := 3, slots := 6, locals := 66 } : Room)) (fun a U => a = #[(.int p1)] ∧ Z.Warmed39 U.vm ∧ U.heap = h0) (fun _ _ _ _ _ => True) (fun _ U o U' => ∃ v L, o = .returned v ∧ Qs Z p1 cs h0 n0 v U'.heap L ∧ FrameEnd U o U' L ({ frames := 4, cells := 3, slots := 6, locals := 66 } : Room).cells ({ frames := 4, cells := 3, slots := 6, locals := 66 } : Room).slots) := by
  refine MetFree.of_bodySF (plainFor_of_name pn_com_example_kworum_kworum_model_EntryEqualsPinLaw) hisR ?_
  intro p e s m args below meth c s₁ Bd hml0 hP hK
  obtain ⟨rfl, hZ, hH0⟩ := hP
  have hx := Bd.exec
  have hby := Bd.bytes
  have hml : c.maxLocals = 2 := hml0
  have hown : s.vm.findClass "com/example/kworum/kworum/model/EntryEqualsPinLaw" = some m.cls := findClass_of_methodNamed Bd.named
  have hnm := (name_of_methodNamed Bd.named Bd.method).1
  have X0 : Stand p l e ({ frames := 4, cells := 3, slots := 6, locals := 66 } : Room) s m #[(.int p1)] below meth c s₁ [] 0 0 := Stand.of_body Bd
  have e0 : s₁.heap = h0 := by rw [← hH0, Bd.state]; rfl
  have N0 := Fr.nil n0
  refine own_cast (ef_s m p1) ?_
  show own_Go p e below (fun o U' => ∃ v L, o = .returned v ∧ Qs Z p1 cs h0 n0 v U'.heap L ∧ FrameEnd s o U' L ({ frames := 4, cells := 3, slots := 6, locals := 66 } : Room).cells ({ frames := 4, cells := 3, slots := 6, locals := 66 } : Room).slots) (s₁.setTop (mkF m 0 #[.val (.int p1), .unset] []))
  refine own_via (fun _ => XS.iconst X0.here hx rfl (hb hby d2_0)) ?_
  show own_Go p e below _ (s₁.setTop (mkF m 1 #[.val (.int p1), .unset] [(.int (1 : Int32))]))
  obtain ⟨T_1, h_1, k_1, X_1, e_1, E_1, A_1, st_1⟩ := newP X0 hx hZ (own_w hw 11 rfl) e0 (g := (mkF m 1 #[.val (.int p1), .unset] [(.int (1 : Int32))])) rfl (hb hby d2_1) rfl (by decide) (cap := 1) (by decide) (by decide) (by decide) (by decide)
  obtain ⟨b_1, g_1⟩ : ∃ z, z = h0.size := ⟨_, rfl⟩
  rw [← g_1] at A_1 st_1
  have V_1 : Arv Z h_1 b_1 k_1 .char (1 : Int32) [(.int (0 : Int32))] (.int (0 : Int32)) := (Arv.new A_1 (by decide)).pad (pad_rep [] (.int (0 : Int32)) 1)
  refine own_via st_1 ?_
  show own_Go p e below _ (T_1.setTop (mkF m 3 #[.val (.int p1), .unset] [(.ref b_1)]))
  refine own_via (fun _ => XS.astoreN X_1.here hx rfl (hb hby d2_3) rfl rfl (l' := #[.val (.int p1), .val (.ref b_1)]) rfl) ?_
  show own_Go p e below _ (T_1.setTop (mkF m 4 #[.val (.int p1), .val (.ref b_1)] []))
  refine own_via (fun _ => XS.aloadN X_1.here hx rfl (hb hby d2_4) rfl rfl) ?_
  show own_Go p e below _ (T_1.setTop (mkF m 5 #[.val (.int p1), .val (.ref b_1)] [(.ref b_1)]))
  refine own_via (fun _ => XS.iconst X_1.here hx rfl (hb hby d2_5)) ?_
  show own_Go p e below _ (T_1.setTop (mkF m 6 #[.val (.int p1), .val (.ref b_1)] [(.int (0 : Int32)), (.ref b_1)]))
  refine own_via (fun _ => XS.iloadN X_1.here hx rfl (hb hby d2_6) rfl) ?_
  show own_Go p e below _ (T_1.setTop (mkF m 7 #[.val (.int p1), .val (.ref b_1)] [(.int p1), (.int (0 : Int32)), (.ref b_1)]))
  obtain ⟨cl_2, Ar_2, q_2, S_2, M_2, H_2, G_2⟩ := V_1
  obtain ⟨T_2, h_2, X_2, e_2, W_2, st_2⟩ := stC X_1 hx hZ e_1 Ar_2 (j := (0 : Int32)) (inb_of S_2 ⟨by decide, by decide⟩) (g := (mkF m 7 #[.val (.int p1), .val (.ref b_1)] [(.int p1), (.int (0 : Int32)), (.ref b_1)])) rfl rfl (hb hby d2_7)
  have V_2 : Arv Z h_2 b_1 k_1 .char (1 : Int32) [(.int (nar .char p1))] (.int (0 : Int32)) := Arv.set Ar_2 q_2 S_2 M_2 H_2 G_2 (fits_nar_char _) W_2 0 rfl (Nat.le_of_ble_eq_true rfl)
  have N_2 := Fr.snoc X_2 N0 (Nat.le_trans Z0 (Nat.le_of_eq g_1.symm))
  refine own_via st_2 ?_
  show own_Go p e below _ (T_2.setTop (mkF m 8 #[.val (.int p1), .val (.ref b_1)] []))
  have V_3 : Arv Z h_2 b_1 k_1 .char (1 : Int32) [(.int p1)] (.int (0 : Int32)) := by have q := V_2; rwa [own_nar hb1] at q
  obtain ⟨T_4, h_4, X_4, e_4, E_4, A_4, D_4, -, st_4⟩ := newO X_2 hx hZ hown (own_w hw 12 rfl) (own_w hw 13 rfl) (own_w hw 14 rfl) e_2 (g := (mkF m 8 #[.val (.int p1), .val (.ref b_1)] [])) rfl (hb hby d2_8) (by decide) (by decide)
  obtain ⟨b_4, g_4⟩ : ∃ z, z = h_2.size := ⟨_, rfl⟩
  rw [← g_4] at A_4 D_4 st_4
  have F_5 : Fld Z h_4 b_4 "java/lang/String" "coder" "B" (.int (0 : Int32)) := D_4 (Or.inr (own_w hw 38 rfl)) (ty := .byte) (by decide)
  have F_6 : Fld Z h_4 b_4 "java/lang/String" "value" "[B" .null := D_4 (Or.inr (own_w hw 40 rfl)) (ty := (.array .byte)) (by decide)
  refine own_via st_4 ?_
  show own_Go p e below _ (T_4.setTop (mkF m 11 #[.val (.int p1), .val (.ref b_1)] [(.ref b_4)]))
  refine own_via (fun _ => XS.dup X_4.here hx rfl (hb hby d2_11) rfl rfl) ?_
  show own_Go p e below _ (T_4.setTop (mkF m 12 #[.val (.int p1), .val (.ref b_1)] [(.ref b_4), (.ref b_4)]))
  refine own_via (fun _ => XS.aloadN X_4.here hx rfl (hb hby d2_12) rfl rfl) ?_
  show own_Go p e below _ (T_4.setTop (mkF m 13 #[.val (.int p1), .val (.ref b_1)] [(.ref b_1), (.ref b_4), (.ref b_4)]))
  have K_7 : Keep h_2 h_4 [] := (Keep.refl h_2 []).ext E_4
  have K_8 : Keep h0 h_1 [] := (Keep.refl h0 []).ext E_1
  have K_9 : Keep h0 h_2 [] := Keep.wr (ws := []) K_8 W_2 (Or.inr (Nat.le_of_eq g_1.symm))
  have K_10 : Keep h0 h_4 [] := K_9.ext E_4
  obtain ⟨_, _, ⟨T_11, L_11, k_11, n_11⟩, -, X_11, ⟨Lc_11, hQ_11, l_11, y_11, z_11⟩, st_11⟩ := X_4.specialBack hx (y := (⟨"java/lang/String", "<init>", "([C)V"⟩ : MethodName)) rfl hown (mvT hZ (own_w hw 15 rfl)) (mvT hZ (own_w hw 16 rfl)) (mvT hZ (own_w hw 17 rfl)) (by decide) (StrChars.Road.backV (W := 1) hZ (own_hwords hw) (kI := 4) (own_w hw 13 rfl) (cs := ([p1] : List Int32)) (bs := ([p1] : List Int32).map (fun c => c.toInt8.toInt32)) (n := 1) (Nat.le_trans Z0 (Nat.le_trans K_9.1 (Nat.le_of_eq g_4.symm))) (Nat.le_trans Z0 K_10.1) A_4 F_6 F_5 (V_3.keep K_7 nin0) (Scs.ext (O0.keep K_10 all0).2) hcs rfl rfl (by decide) (by decide) (own_one hb1) rfl (by decide) (by decide)) (g := (mkF m 13 #[.val (.int p1), .val (.ref b_1)] [(.ref b_1), (.ref b_4), (.ref b_4)])) rfl (by rw [hml]; rfl) (Steps.refl _) (a := b_4) (argsL := [(.ref b_1)]) (rest := [(.ref b_4)]) (lenOf pd_0 rfl) rfl (by show 2 * 0 + _ ≤ _; exact Nat.le_of_eq rfl) (hb hby d2_13) (fun _ _ => ⟨rfl, e_4, (by decide : 2 + 1 ≤ _), (by decide : 5 + 1 ≤ _)⟩)
  dsimp only [Pt.U, Pt.locs, Pt.cells, Pt.slots] at X_11 l_11 y_11 z_11 st_11 hQ_11
  subst l_11 y_11 z_11
  obtain ⟨rfl, Nq_11, K_11q, EX_11, FC_11, t_11, kb_11, -, ft_11, -, FV_11, FA_11⟩ := hQ_11
  have N_11 := Fr.app N_2 Nq_11
  refine own_via (fun _ k => st_11.trans k) ?_
  show own_Go p e below _ (T_11.setTop (mkF m 16 #[.val (.int p1), .val (.ref b_1)] [(.ref b_4)]))
  have K_12 : Keep h0 T_11.heap [] := Keep.trans (ws := []) K_10 K_11q (allS (Or.inr (Nat.le_trans K_9.1 (Nat.le_of_eq g_4.symm))) all0)
  exact own_retv X_11 Bd.notSynchronized hx Bd.returns rfl (Or.inr (Or.inr (Or.inr (Or.inr ⟨rfl, rfl, rfl⟩)))) (hb hby d2_16) (by decide) (by decide) ⟨b_4, rfl, N_11, K_12, (Nat.le_trans K_9.1 (Nat.le_of_eq g_4.symm)), EX_11, ⟨EX_11, FC_11, ⟨t_11, kb_11, FV_11, FA_11⟩, own_one hb1, (by simp)⟩⟩
theorem d9_0 : decode prog_46_method_1_code 0 = .ok (.aload_n 0, 1) := by decide +kernel
theorem d9_1 : decode prog_46_method_1_code 1 = .ok (.invokespecial 1, 3) := by decide +kernel
theorem d9_4 : decode prog_46_method_1_code 4 = .ok (.aload_n 0, 1) := by decide +kernel
theorem d9_5 : decode prog_46_method_1_code 5 = .ok (.aload_n 1, 1) := by decide +kernel
theorem d9_6 : decode prog_46_method_1_code 6 = .ok (.putfield 7, 3) := by decide +kernel
theorem d9_9 : decode prog_46_method_1_code 9 = .ok (.aload_n 0, 1) := by decide +kernel
theorem d9_10 : decode prog_46_method_1_code 10 = .ok (.aload_n 2, 1) := by decide +kernel
theorem d9_11 : decode prog_46_method_1_code 11 = .ok (.putfield 13, 3) := by decide +kernel
theorem d9_14 : decode prog_46_method_1_code 14 = .ok (.aload_n 0, 1) := by decide +kernel
theorem d9_15 : decode prog_46_method_1_code 15 = .ok (.aload_n 3, 1) := by decide +kernel
theorem d9_16 : decode prog_46_method_1_code 16 = .ok (.putfield 16, 3) := by decide +kernel
theorem d9_19 : decode prog_46_method_1_code 19 = .ok (.aload_n 0, 1) := by decide +kernel
theorem d9_20 : decode prog_46_method_1_code 20 = .ok (.aload 4, 2) := by decide +kernel
theorem d9_22 : decode prog_46_method_1_code 22 = .ok (.putfield 19, 3) := by decide +kernel
theorem d9_25 : decode prog_46_method_1_code 25 = .ok (.aload_n 0, 1) := by decide +kernel
theorem d9_26 : decode prog_46_method_1_code 26 = .ok (.aload 5, 2) := by decide +kernel
theorem d9_28 : decode prog_46_method_1_code 28 = .ok (.putfield 22, 3) := by decide +kernel
theorem d9_31 : decode prog_46_method_1_code 31 = .ok (.return_, 1) := by decide +kernel
theorem pd_1 : parseMethodDescriptor "()V" = some ⟨[], none⟩ := by decide +kernel
theorem pn_com_example_kworum_kworum_model_Entry : plainName "com/example/kworum/kworum/model/Entry" = true := by first | (simp [plainName, overriddenIn]; done) | decide +kernel
theorem ef_entry (m : MethodId) (o0 : Addr) (o1 : Addr) (o2 : Addr) (o3 : Addr) (o4 : Addr) (o5 : Addr) : entryFrame m #[(.ref o0), (.ref o1), (.ref o2), (.ref o3), (.ref o4), (.ref o5)] 6 = mkF m 0 #[.val (.ref o0), .val (.ref o1), .val (.ref o2), .val (.ref o3), .val (.ref o4), .val (.ref o5)] [] := by first | (simp [entryFrame, mkF, argsToLocals, Value.category]; done) | rfl
def Qentry (Z : State) (o0 : Addr) (o1 : Addr) (o2 : Addr) (o3 : Addr) (o4 : Addr) (o5 : Addr) (h0 : Heap) (n0 : Nat) (v : Option Value) (h : Heap) (L : List Loc) : Prop := v = none ∧ Fr n0 L ∧ Keep h0 h [o0] ∧ (Fld Z h o0 "com/example/kworum/kworum/model/Entry" "role" "Ljava/lang/String;" (.ref o1)) ∧ (Fld Z h o0 "com/example/kworum/kworum/model/Entry" "type" "Ljava/lang/String;" (.ref o2)) ∧ (Fld Z h o0 "com/example/kworum/kworum/model/Entry" "right" "Ljava/lang/String;" (.ref o3)) ∧ (Fld Z h o0 "com/example/kworum/kworum/model/Entry" "target" "Ljava/lang/String;" (.ref o4)) ∧ (Fld Z h o0 "com/example/kworum/kworum/model/Entry" "template" "Ljava/lang/String;" (.ref o5))
set_option maxRecDepth 65536 in
set_option maxHeartbeats 40000000 in
theorem rmentry (l : Launch) (Z : State) (a0 : Array Value) (hw : ∀ d ∈ tables_1, d.before a0 Z = true) (ws : List Jvm.Cond) (o0 : Addr) (o1 : Addr) (o2 : Addr) (o3 : Addr) (o4 : Addr) (o5 : Addr) (h0 : Heap) (n0 : Nat) (Z0 : n0 ≤ h0.size) (E1 : Exa Z h0 o0 "com/example/kworum/kworum/model/Entry") (F0 : Fld Z h0 o0 "com/example/kworum/kworum/model/Entry" "role" "Ljava/lang/String;" .null) (F1 : Fld Z h0 o0 "com/example/kworum/kworum/model/Entry" "type" "Ljava/lang/String;" .null) (F2 : Fld Z h0 o0 "com/example/kworum/kworum/model/Entry" "right" "Ljava/lang/String;" .null) (F3 : Fld Z h0 o0 "com/example/kworum/kworum/model/Entry" "target" "Ljava/lang/String;" .null) (F4 : Fld Z h0 o0 "com/example/kworum/kworum/model/Entry" "template" "Ljava/lang/String;" .null) (g1 : n0 ≤ o0) :
    MetFree l (⟨"com/example/kworum/kworum/model/Entry", "<init>", "(Ljava/lang/String;Ljava/lang/String;Ljava/lang/String;Ljava/lang/String;Ljava/lang/String;)V"⟩ : MethodName) (head1 (Jvm.Cond.code (⟨"com/example/kworum/kworum/model/Entry", "<init>", "(Ljava/lang/String;Ljava/lang/String;Ljava/lang/String;Ljava/lang/String;Ljava/lang/String;)V"⟩ : MethodName) prog_46_method_1_code 6 none :: ws) ({ frames := 1, cells := 0, slots := 0, locals := 12 } : Room)) (fun a U => a = #[(.ref o0), (.ref o1), (.ref o2), (.ref o3), (.ref o4), (.ref o5)] ∧ Z.Warmed39 U.vm ∧ U.heap = h0) (fun _ _ _ _ _ => True) (fun _ U o U' => ∃ v L, o = .returned v ∧ Qentry Z o0 o1 o2 o3 o4 o5 h0 n0 v U'.heap L ∧ FrameEnd U o U' L ({ frames := 1, cells := 0, slots := 0, locals := 12 } : Room).cells ({ frames := 1, cells := 0, slots := 0, locals := 12 } : Room).slots) := by
  refine MetFree.of_bodySF (plainFor_of_name pn_com_example_kworum_kworum_model_Entry) hisR ?_
  intro p e s m args below meth c s₁ Bd hml0 hP hK
  obtain ⟨rfl, hZ, hH0⟩ := hP
  have hx := Bd.exec
  have hby := Bd.bytes
  have hml : c.maxLocals = 6 := hml0
  have hown : s.vm.findClass "com/example/kworum/kworum/model/Entry" = some m.cls := findClass_of_methodNamed Bd.named
  have hnm := (name_of_methodNamed Bd.named Bd.method).1
  have X0 : Stand p l e ({ frames := 1, cells := 0, slots := 0, locals := 12 } : Room) s m #[(.ref o0), (.ref o1), (.ref o2), (.ref o3), (.ref o4), (.ref o5)] below meth c s₁ [] 0 0 := Stand.of_body Bd
  have e0 : s₁.heap = h0 := by rw [← hH0, Bd.state]; rfl
  have N0 := Fr.nil n0
  refine own_cast (ef_entry m o0 o1 o2 o3 o4 o5) ?_
  show own_Go p e below (fun o U' => ∃ v L, o = .returned v ∧ Qentry Z o0 o1 o2 o3 o4 o5 h0 n0 v U'.heap L ∧ FrameEnd s o U' L ({ frames := 1, cells := 0, slots := 0, locals := 12 } : Room).cells ({ frames := 1, cells := 0, slots := 0, locals := 12 } : Room).slots) (s₁.setTop (mkF m 0 #[.val (.ref o0), .val (.ref o1), .val (.ref o2), .val (.ref o3), .val (.ref o4), .val (.ref o5)] []))
  refine own_via (fun _ => XS.aloadN X0.here hx rfl (hb hby d9_0) rfl rfl) ?_
  show own_Go p e below _ (s₁.setTop (mkF m 1 #[.val (.ref o0), .val (.ref o1), .val (.ref o2), .val (.ref o3), .val (.ref o4), .val (.ref o5)] [(.ref o0)]))
  obtain ⟨T_1, X_1, e_1, st_1⟩ := initO X0 hx hZ hown (own_w hw 44 rfl) (own_w hw 23 rfl) (own_w hw 24 rfl) e0 (g := (mkF m 1 #[.val (.ref o0), .val (.ref o1), .val (.ref o2), .val (.ref o3), .val (.ref o4), .val (.ref o5)] [(.ref o0)])) rfl (by rw [hml]; rfl) rfl (hb hby d9_1) (by decide) (W := 0) (by show 2 * 0 + _ ≤ _; exact Nat.le_of_eq rfl) (by decide)
  refine own_via st_1 ?_
  show own_Go p e below _ (T_1.setTop (mkF m 4 #[.val (.ref o0), .val (.ref o1), .val (.ref o2), .val (.ref o3), .val (.ref o4), .val (.ref o5)] []))
  refine own_via (fun _ => XS.aloadN X_1.here hx rfl (hb hby d9_4) rfl rfl) ?_
  show own_Go p e below _ (T_1.setTop (mkF m 5 #[.val (.ref o0), .val (.ref o1), .val (.ref o2), .val (.ref o3), .val (.ref o4), .val (.ref o5)] [(.ref o0)]))
  refine own_via (fun _ => XS.aloadN X_1.here hx rfl (hb hby d9_5) rfl rfl) ?_
  show own_Go p e below _ (T_1.setTop (mkF m 6 #[.val (.ref o0), .val (.ref o1), .val (.ref o2), .val (.ref o3), .val (.ref o4), .val (.ref o5)] [(.ref o1), (.ref o0)]))
  obtain ⟨T_2, h_2, X_2, e_2, W_2, st_2⟩ := putF X_1 hx hZ hown (host := "") (Or.inl (own_w hw 45 rfl)) Via.refl e_1 F0 E1 (Or.inr ⟨(own_w hw 46 rfl), rfl, hnm⟩) (own_w hw 6 rfl) (ty := (.object "java/lang/String")) (by decide) rfl rfl (g := (mkF m 6 #[.val (.ref o0), .val (.ref o1), .val (.ref o2), .val (.ref o3), .val (.ref o4), .val (.ref o5)] [(.ref o1), (.ref o0)])) rfl rfl (hb hby d9_6)
  have F_3 : Fld Z h_2 o0 "com/example/kworum/kworum/model/Entry" "type" "Ljava/lang/String;" .null := F1.other W_2 (Or.inr (slot_ne (Or.inr (own_w hw 48 rfl)) (Or.inr (own_w hw 46 rfl)) (by decide) (t := (.object "java/lang/String")) (t' := (.object "java/lang/String")) (by decide) (by decide)))
  have F_4 : Fld Z h_2 o0 "com/example/kworum/kworum/model/Entry" "right" "Ljava/lang/String;" .null := F2.other W_2 (Or.inr (slot_ne (Or.inr (own_w hw 50 rfl)) (Or.inr (own_w hw 46 rfl)) (by decide) (t := (.object "java/lang/String")) (t' := (.object "java/lang/String")) (by decide) (by decide)))
  have F_5 : Fld Z h_2 o0 "com/example/kworum/kworum/model/Entry" "target" "Ljava/lang/String;" .null := F3.other W_2 (Or.inr (slot_ne (Or.inr (own_w hw 52 rfl)) (Or.inr (own_w hw 46 rfl)) (by decide) (t := (.object "java/lang/String")) (t' := (.object "java/lang/String")) (by decide) (by decide)))
  have F_6 : Fld Z h_2 o0 "com/example/kworum/kworum/model/Entry" "template" "Ljava/lang/String;" .null := F4.other W_2 (Or.inr (slot_ne (Or.inr (own_w hw 54 rfl)) (Or.inr (own_w hw 46 rfl)) (by decide) (t := (.object "java/lang/String")) (t' := (.object "java/lang/String")) (by decide) (by decide)))
  have F_7 : Fld Z h_2 o0 "com/example/kworum/kworum/model/Entry" "role" "Ljava/lang/String;" (.ref o1) := F0.same W_2
  have N_2 := Fr.snoc X_2 N0 g1
  refine own_via st_2 ?_
  show own_Go p e below _ (T_2.setTop (mkF m 9 #[.val (.ref o0), .val (.ref o1), .val (.ref o2), .val (.ref o3), .val (.ref o4), .val (.ref o5)] []))
  refine own_via (fun _ => XS.aloadN X_2.here hx rfl (hb hby d9_9) rfl rfl) ?_
  show own_Go p e below _ (T_2.setTop (mkF m 10 #[.val (.ref o0), .val (.ref o1), .val (.ref o2), .val (.ref o3), .val (.ref o4), .val (.ref o5)] [(.ref o0)]))
  refine own_via (fun _ => XS.aloadN X_2.here hx rfl (hb hby d9_10) rfl rfl) ?_
  show own_Go p e below _ (T_2.setTop (mkF m 11 #[.val (.ref o0), .val (.ref o1), .val (.ref o2), .val (.ref o3), .val (.ref o4), .val (.ref o5)] [(.ref o2), (.ref o0)]))
  have K_8 : Keep h0 h_2 [o0] := Keep.wr (ws := [o0]) (own_keep_mono (Keep.refl h0 []) (by simp)) W_2 (Or.inl (List.mem_of_getElem? (i := 0) rfl))
  obtain ⟨T_9, h_9, X_9, e_9, W_9, st_9⟩ := putF X_2 hx hZ hown (host := "") (Or.inl (own_w hw 47 rfl)) Via.refl e_2 F_3 (E1.keep K_8) (Or.inr ⟨(own_w hw 48 rfl), rfl, hnm⟩) (own_w hw 6 rfl) (ty := (.object "java/lang/String")) (by decide) rfl rfl (g := (mkF m 11 #[.val (.ref o0), .val (.ref o1), .val (.ref o2), .val (.ref o3), .val (.ref o4), .val (.ref o5)] [(.ref o2), (.ref o0)])) rfl rfl (hb hby d9_11)
  have F_10 : Fld Z h_9 o0 "com/example/kworum/kworum/model/Entry" "right" "Ljava/lang/String;" .null := F_4.other W_9 (Or.inr (slot_ne (Or.inr (own_w hw 50 rfl)) (Or.inr (own_w hw 48 rfl)) (by decide) (t := (.object "java/lang/String")) (t' := (.object "java/lang/String")) (by decide) (by decide)))
  have F_11 : Fld Z h_9 o0 "com/example/kworum/kworum/model/Entry" "target" "Ljava/lang/String;" .null := F_5.other W_9 (Or.inr (slot_ne (Or.inr (own_w hw 52 rfl)) (Or.inr (own_w hw 48 rfl)) (by decide) (t := (.object "java/lang/String")) (t' := (.object "java/lang/String")) (by decide) (by decide)))
  have F_12 : Fld Z h_9 o0 "com/example/kworum/kworum/model/Entry" "template" "Ljava/lang/String;" .null := F_6.other W_9 (Or.inr (slot_ne (Or.inr (own_w hw 54 rfl)) (Or.inr (own_w hw 48 rfl)) (by decide) (t := (.object "java/lang/String")) (t' := (.object "java/lang/String")) (by decide) (by decide)))
  have F_13 : Fld Z h_9 o0 "com/example/kworum/kworum/model/Entry" "role" "Ljava/lang/String;" (.ref o1) := F_7.other W_9 (Or.inr (slot_ne (Or.inr (own_w hw 46 rfl)) (Or.inr (own_w hw 48 rfl)) (by decide) (t := (.object "java/lang/String")) (t' := (.object "java/lang/String")) (by decide) (by decide)))
  have F_14 : Fld Z h_9 o0 "com/example/kworum/kworum/model/Entry" "type" "Ljava/lang/String;" (.ref o2) := F_3.same W_9
  have N_9 := Fr.snoc X_9 N_2 g1
  refine own_via st_9 ?_
  show own_Go p e below _ (T_9.setTop (mkF m 14 #[.val (.ref o0), .val (.ref o1), .val (.ref o2), .val (.ref o3), .val (.ref o4), .val (.ref o5)] []))
  refine own_via (fun _ => XS.aloadN X_9.here hx rfl (hb hby d9_14) rfl rfl) ?_
  show own_Go p e below _ (T_9.setTop (mkF m 15 #[.val (.ref o0), .val (.ref o1), .val (.ref o2), .val (.ref o3), .val (.ref o4), .val (.ref o5)] [(.ref o0)]))
  refine own_via (fun _ => XS.aloadN X_9.here hx rfl (hb hby d9_15) rfl rfl) ?_
  show own_Go p e below _ (T_9.setTop (mkF m 16 #[.val (.ref o0), .val (.ref o1), .val (.ref o2), .val (.ref o3), .val (.ref o4), .val (.ref o5)] [(.ref o3), (.ref o0)]))
  have K_15 : Keep h0 h_9 [o0] := Keep.wr (ws := [o0]) K_8 W_9 (Or.inl (List.mem_of_getElem? (i := 0) rfl))
  obtain ⟨T_16, h_16, X_16, e_16, W_16, st_16⟩ := putF X_9 hx hZ hown (host := "") (Or.inl (own_w hw 49 rfl)) Via.refl e_9 F_10 (E1.keep K_15) (Or.inr ⟨(own_w hw 50 rfl), rfl, hnm⟩) (own_w hw 6 rfl) (ty := (.object "java/lang/String")) (by decide) rfl rfl (g := (mkF m 16 #[.val (.ref o0), .val (.ref o1), .val (.ref o2), .val (.ref o3), .val (.ref o4), .val (.ref o5)] [(.ref o3), (.ref o0)])) rfl rfl (hb hby d9_16)
  have F_17 : Fld Z h_16 o0 "com/example/kworum/kworum/model/Entry" "target" "Ljava/lang/String;" .null := F_11.other W_16 (Or.inr (slot_ne (Or.inr (own_w hw 52 rfl)) (Or.inr (own_w hw 50 rfl)) (by decide) (t := (.object "java/lang/String")) (t' := (.object "java/lang/String")) (by decide) (by decide)))
  have F_18 : Fld Z h_16 o0 "com/example/kworum/kworum/model/Entry" "template" "Ljava/lang/String;" .null := F_12.other W_16 (Or.inr (slot_ne (Or.inr (own_w hw 54 rfl)) (Or.inr (own_w hw 50 rfl)) (by decide) (t := (.object "java/lang/String")) (t' := (.object "java/lang/String")) (by decide) (by decide)))
  have F_19 : Fld Z h_16 o0 "com/example/kworum/kworum/model/Entry" "role" "Ljava/lang/String;" (.ref o1) := F_13.other W_16 (Or.inr (slot_ne (Or.inr (own_w hw 46 rfl)) (Or.inr (own_w hw 50 rfl)) (by decide) (t := (.object "java/lang/String")) (t' := (.object "java/lang/String")) (by decide) (by decide)))
  have F_20 : Fld Z h_16 o0 "com/example/kworum/kworum/model/Entry" "type" "Ljava/lang/String;" (.ref o2) := F_14.other W_16 (Or.inr (slot_ne (Or.inr (own_w hw 48 rfl)) (Or.inr (own_w hw 50 rfl)) (by decide) (t := (.object "java/lang/String")) (t' := (.object "java/lang/String")) (by decide) (by decide)))
  have F_21 : Fld Z h_16 o0 "com/example/kworum/kworum/model/Entry" "right" "Ljava/lang/String;" (.ref o3) := F_10.same W_16
  have N_16 := Fr.snoc X_16 N_9 g1
  refine own_via st_16 ?_
  show own_Go p e below _ (T_16.setTop (mkF m 19 #[.val (.ref o0), .val (.ref o1), .val (.ref o2), .val (.ref o3), .val (.ref o4), .val (.ref o5)] []))
  refine own_via (fun _ => XS.aloadN X_16.here hx rfl (hb hby d9_19) rfl rfl) ?_
  show own_Go p e below _ (T_16.setTop (mkF m 20 #[.val (.ref o0), .val (.ref o1), .val (.ref o2), .val (.ref o3), .val (.ref o4), .val (.ref o5)] [(.ref o0)]))
  refine own_via (fun _ => XS.aload X_16.here hx rfl (hb hby d9_20) rfl rfl) ?_
  show own_Go p e below _ (T_16.setTop (mkF m 22 #[.val (.ref o0), .val (.ref o1), .val (.ref o2), .val (.ref o3), .val (.ref o4), .val (.ref o5)] [(.ref o4), (.ref o0)]))
  have K_22 : Keep h0 h_16 [o0] := Keep.wr (ws := [o0]) K_15 W_16 (Or.inl (List.mem_of_getElem? (i := 0) rfl))
  obtain ⟨T_23, h_23, X_23, e_23, W_23, st_23⟩ := putF X_16 hx hZ hown (host := "") (Or.inl (own_w hw 51 rfl)) Via.refl e_16 F_17 (E1.keep K_22) (Or.inr ⟨(own_w hw 52 rfl), rfl, hnm⟩) (own_w hw 6 rfl) (ty := (.object "java/lang/String")) (by decide) rfl rfl (g := (mkF m 22 #[.val (.ref o0), .val (.ref o1), .val (.ref o2), .val (.ref o3), .val (.ref o4), .val (.ref o5)] [(.ref o4), (.ref o0)])) rfl rfl (hb hby d9_22)
  have F_24 : Fld Z h_23 o0 "com/example/kworum/kworum/model/Entry" "template" "Ljava/lang/String;" .null := F_18.other W_23 (Or.inr (slot_ne (Or.inr (own_w hw 54 rfl)) (Or.inr (own_w hw 52 rfl)) (by decide) (t := (.object "java/lang/String")) (t' := (.object "java/lang/String")) (by decide) (by decide)))
  have F_25 : Fld Z h_23 o0 "com/example/kworum/kworum/model/Entry" "role" "Ljava/lang/String;" (.ref o1) := F_19.other W_23 (Or.inr (slot_ne (Or.inr (own_w hw 46 rfl)) (Or.inr (own_w hw 52 rfl)) (by decide) (t := (.object "java/lang/String")) (t' := (.object "java/lang/String")) (by decide) (by decide)))
  have F_26 : Fld Z h_23 o0 "com/example/kworum/kworum/model/Entry" "type" "Ljava/lang/String;" (.ref o2) := F_20.other W_23 (Or.inr (slot_ne (Or.inr (own_w hw 48 rfl)) (Or.inr (own_w hw 52 rfl)) (by decide) (t := (.object "java/lang/String")) (t' := (.object "java/lang/String")) (by decide) (by decide)))
  have F_27 : Fld Z h_23 o0 "com/example/kworum/kworum/model/Entry" "right" "Ljava/lang/String;" (.ref o3) := F_21.other W_23 (Or.inr (slot_ne (Or.inr (own_w hw 50 rfl)) (Or.inr (own_w hw 52 rfl)) (by decide) (t := (.object "java/lang/String")) (t' := (.object "java/lang/String")) (by decide) (by decide)))
  have F_28 : Fld Z h_23 o0 "com/example/kworum/kworum/model/Entry" "target" "Ljava/lang/String;" (.ref o4) := F_17.same W_23
  have N_23 := Fr.snoc X_23 N_16 g1
  refine own_via st_23 ?_
  show own_Go p e below _ (T_23.setTop (mkF m 25 #[.val (.ref o0), .val (.ref o1), .val (.ref o2), .val (.ref o3), .val (.ref o4), .val (.ref o5)] []))
  refine own_via (fun _ => XS.aloadN X_23.here hx rfl (hb hby d9_25) rfl rfl) ?_
  show own_Go p e below _ (T_23.setTop (mkF m 26 #[.val (.ref o0), .val (.ref o1), .val (.ref o2), .val (.ref o3), .val (.ref o4), .val (.ref o5)] [(.ref o0)]))
  refine own_via (fun _ => XS.aload X_23.here hx rfl (hb hby d9_26) rfl rfl) ?_
  show own_Go p e below _ (T_23.setTop (mkF m 28 #[.val (.ref o0), .val (.ref o1), .val (.ref o2), .val (.ref o3), .val (.ref o4), .val (.ref o5)] [(.ref o5), (.ref o0)]))
  have K_29 : Keep h0 h_23 [o0] := Keep.wr (ws := [o0]) K_22 W_23 (Or.inl (List.mem_of_getElem? (i := 0) rfl))
  obtain ⟨T_30, h_30, X_30, e_30, W_30, st_30⟩ := putF X_23 hx hZ hown (host := "") (Or.inl (own_w hw 53 rfl)) Via.refl e_23 F_24 (E1.keep K_29) (Or.inr ⟨(own_w hw 54 rfl), rfl, hnm⟩) (own_w hw 6 rfl) (ty := (.object "java/lang/String")) (by decide) rfl rfl (g := (mkF m 28 #[.val (.ref o0), .val (.ref o1), .val (.ref o2), .val (.ref o3), .val (.ref o4), .val (.ref o5)] [(.ref o5), (.ref o0)])) rfl rfl (hb hby d9_28)
  have F_31 : Fld Z h_30 o0 "com/example/kworum/kworum/model/Entry" "role" "Ljava/lang/String;" (.ref o1) := F_25.other W_30 (Or.inr (slot_ne (Or.inr (own_w hw 46 rfl)) (Or.inr (own_w hw 54 rfl)) (by decide) (t := (.object "java/lang/String")) (t' := (.object "java/lang/String")) (by decide) (by decide)))
  have F_32 : Fld Z h_30 o0 "com/example/kworum/kworum/model/Entry" "type" "Ljava/lang/String;" (.ref o2) := F_26.other W_30 (Or.inr (slot_ne (Or.inr (own_w hw 48 rfl)) (Or.inr (own_w hw 54 rfl)) (by decide) (t := (.object "java/lang/String")) (t' := (.object "java/lang/String")) (by decide) (by decide)))
  have F_33 : Fld Z h_30 o0 "com/example/kworum/kworum/model/Entry" "right" "Ljava/lang/String;" (.ref o3) := F_27.other W_30 (Or.inr (slot_ne (Or.inr (own_w hw 50 rfl)) (Or.inr (own_w hw 54 rfl)) (by decide) (t := (.object "java/lang/String")) (t' := (.object "java/lang/String")) (by decide) (by decide)))
  have F_34 : Fld Z h_30 o0 "com/example/kworum/kworum/model/Entry" "target" "Ljava/lang/String;" (.ref o4) := F_28.other W_30 (Or.inr (slot_ne (Or.inr (own_w hw 52 rfl)) (Or.inr (own_w hw 54 rfl)) (by decide) (t := (.object "java/lang/String")) (t' := (.object "java/lang/String")) (by decide) (by decide)))
  have F_35 : Fld Z h_30 o0 "com/example/kworum/kworum/model/Entry" "template" "Ljava/lang/String;" (.ref o5) := F_24.same W_30
  have N_30 := Fr.snoc X_30 N_23 g1
  refine own_via st_30 ?_
  show own_Go p e below _ (T_30.setTop (mkF m 31 #[.val (.ref o0), .val (.ref o1), .val (.ref o2), .val (.ref o3), .val (.ref o4), .val (.ref o5)] []))
  have K_36 : Keep h0 h_30 [o0] := Keep.wr (ws := [o0]) K_29 W_30 (Or.inl (List.mem_of_getElem? (i := 0) rfl))
  exact own_ret0 X_30 Bd.notSynchronized hx Bd.returns (hb hby d9_31) (by decide) (by decide) (by rw [e_30]; exact ⟨rfl, N_30, K_36, F_31, F_32, F_33, F_34, F_35⟩)
theorem d11_0 : decode jdk_31_method_10_code 0 = .ok (.aload_n 0, 1) := by decide +kernel
theorem d11_1 : decode jdk_31_method_10_code 1 = .ok (.ifnonnull 11, 3) := by decide +kernel
theorem d11_4 : decode jdk_31_method_10_code 4 = .ok (.new 84, 3) := by decide +kernel
theorem d11_7 : decode jdk_31_method_10_code 7 = .ok (.dup, 1) := by decide +kernel
theorem d11_8 : decode jdk_31_method_10_code 8 = .ok (.invokespecial 86, 3) := by decide +kernel
theorem d11_11 : decode jdk_31_method_10_code 11 = .ok (.athrow, 1) := by decide +kernel
theorem d11_12 : decode jdk_31_method_10_code 12 = .ok (.aload_n 0, 1) := by decide +kernel
theorem d11_13 : decode jdk_31_method_10_code 13 = .ok (.areturn, 1) := by decide +kernel
theorem pn_java_util_Objects : plainName "java/util/Objects" = true := by first | (simp [plainName, overriddenIn]; done) | decide +kernel
theorem ef_rnn (m : MethodId) (a1 : Addr) : entryFrame m #[(.ref a1)] 1 = mkF m 0 #[.val (.ref a1)] [] := by first | (simp [entryFrame, mkF, argsToLocals, Value.category]; done) | rfl
def Qrnn (Z : State) (a1 : Addr) (h0 : Heap) (n0 : Nat) (v : Option Value) (h : Heap) (L : List Loc) : Prop := v = some (.ref a1) ∧ Fr n0 L ∧ h = h0
set_option maxRecDepth 65536 in
set_option maxHeartbeats 40000000 in
theorem rmrnn (l : Launch) (Z : State) (a0 : Array Value) (hw : ∀ d ∈ tables_1, d.before a0 Z = true) (ws : List Jvm.Cond) (a1 : Addr) (h0 : Heap) (n0 : Nat) (Z0 : n0 ≤ h0.size) :
    MetFree l (⟨"java/util/Objects", "requireNonNull", "(Ljava/lang/Object;)Ljava/lang/Object;"⟩ : MethodName) (head1 (Jvm.Cond.code (⟨"java/util/Objects", "requireNonNull", "(Ljava/lang/Object;)Ljava/lang/Object;"⟩ : MethodName) jdk_31_method_10_code 1 (some (.object "java/lang/Object")) :: ws) ({ frames := 0, cells := 0, slots := 0, locals := 0 } : Room)) (fun a U => a = #[(.ref a1)] ∧ Z.Warmed39 U.vm ∧ U.heap = h0) (fun _ _ _ _ _ => True) (fun _ U o U' => ∃ v L, o = .returned v ∧ Qrnn Z a1 h0 n0 v U'.heap L ∧ FrameEnd U o U' L ({ frames := 0, cells := 0, slots := 0, locals := 0 } : Room).cells ({ frames := 0, cells := 0, slots := 0, locals := 0 } : Room).slots) := by
  refine MetFree.of_bodySF (plainFor_of_name pn_java_util_Objects) hisR ?_
  intro p e s m args below meth c s₁ Bd hml0 hP hK
  obtain ⟨rfl, hZ, hH0⟩ := hP
  have hx := Bd.exec
  have hby := Bd.bytes
  have hml : c.maxLocals = 1 := hml0
  have hown : s.vm.findClass "java/util/Objects" = some m.cls := findClass_of_methodNamed Bd.named
  have hnm := (name_of_methodNamed Bd.named Bd.method).1
  have X0 : Stand p l e ({ frames := 0, cells := 0, slots := 0, locals := 0 } : Room) s m #[(.ref a1)] below meth c s₁ [] 0 0 := Stand.of_body Bd
  have e0 : s₁.heap = h0 := by rw [← hH0, Bd.state]; rfl
  have N0 := Fr.nil n0
  refine own_cast (ef_rnn m a1) ?_
  show own_Go p e below (fun o U' => ∃ v L, o = .returned v ∧ Qrnn Z a1 h0 n0 v U'.heap L ∧ FrameEnd s o U' L ({ frames := 0, cells := 0, slots := 0, locals := 0 } : Room).cells ({ frames := 0, cells := 0, slots := 0, locals := 0 } : Room).slots) (s₁.setTop (mkF m 0 #[.val (.ref a1)] []))
  refine own_via (fun _ => XS.aloadN X0.here hx rfl (hb hby d11_0) rfl rfl) ?_
  show own_Go p e below _ (s₁.setTop (mkF m 1 #[.val (.ref a1)] [(.ref a1)]))
  refine own_via (fun _ => XS.ifnonnullYes X0.here hx rfl (pc0 := 1) (pc' := 12) rfl (hb hby d11_1) rfl (by decide) (by decide)) ?_
  show own_Go p e below _ (s₁.setTop (mkF m 12 #[.val (.ref a1)] []))
  refine own_via (fun _ => XS.aloadN X0.here hx rfl (hb hby d11_12) rfl rfl) ?_
  show own_Go p e below _ (s₁.setTop (mkF m 13 #[.val (.ref a1)] [(.ref a1)]))
  exact own_retv X0 Bd.notSynchronized hx Bd.returns rfl (Or.inr (Or.inr (Or.inr (Or.inr ⟨rfl, rfl, rfl⟩)))) (hb hby d11_13) (by decide) (by decide) (by rw [e0]; exact ⟨rfl, N0, rfl⟩)
theorem d10_0 : decode prog_49_method_1_code 0 = .ok (.aload_n 0, 1) := by decide +kernel
theorem d10_1 : decode prog_49_method_1_code 1 = .ok (.invokespecial 1, 3) := by decide +kernel
theorem d10_4 : decode prog_49_method_1_code 4 = .ok (.aload_n 0, 1) := by decide +kernel
theorem d10_5 : decode prog_49_method_1_code 5 = .ok (.aload_n 1, 1) := by decide +kernel
theorem d10_6 : decode prog_49_method_1_code 6 = .ok (.invokestatic 7, 3) := by decide +kernel
theorem d10_9 : decode prog_49_method_1_code 9 = .ok (.checkcast 13, 3) := by decide +kernel
theorem d10_12 : decode prog_49_method_1_code 12 = .ok (.putfield 15, 3) := by decide +kernel
theorem d10_15 : decode prog_49_method_1_code 15 = .ok (.aload_n 0, 1) := by decide +kernel
theorem d10_16 : decode prog_49_method_1_code 16 = .ok (.aload_n 2, 1) := by decide +kernel
theorem d10_17 : decode prog_49_method_1_code 17 = .ok (.invokestatic 7, 3) := by decide +kernel
theorem d10_20 : decode prog_49_method_1_code 20 = .ok (.checkcast 13, 3) := by decide +kernel
theorem d10_23 : decode prog_49_method_1_code 23 = .ok (.putfield 21, 3) := by decide +kernel
theorem d10_26 : decode prog_49_method_1_code 26 = .ok (.aload_n 0, 1) := by decide +kernel
theorem d10_27 : decode prog_49_method_1_code 27 = .ok (.aload_n 3, 1) := by decide +kernel
theorem d10_28 : decode prog_49_method_1_code 28 = .ok (.invokestatic 7, 3) := by decide +kernel
theorem d10_31 : decode prog_49_method_1_code 31 = .ok (.checkcast 13, 3) := by decide +kernel
theorem d10_34 : decode prog_49_method_1_code 34 = .ok (.putfield 24, 3) := by decide +kernel
theorem d10_37 : decode prog_49_method_1_code 37 = .ok (.aload_n 0, 1) := by decide +kernel
theorem d10_38 : decode prog_49_method_1_code 38 = .ok (.aload 4, 2) := by decide +kernel
theorem d10_40 : decode prog_49_method_1_code 40 = .ok (.invokestatic 7, 3) := by decide +kernel
theorem d10_43 : decode prog_49_method_1_code 43 = .ok (.checkcast 13, 3) := by decide +kernel
theorem d10_46 : decode prog_49_method_1_code 46 = .ok (.putfield 27, 3) := by decide +kernel
theorem d10_49 : decode prog_49_method_1_code 49 = .ok (.return_, 1) := by decide +kernel
theorem pd_2 : parseMethodDescriptor "(Ljava/lang/Object;)Ljava/lang/Object;" = some ⟨[(.object "java/lang/Object")], some (.object "java/lang/Object")⟩ := by decide +kernel
theorem pn_com_example_kworum_kworum_model_EntryKey : plainName "com/example/kworum/kworum/model/EntryKey" = true := by first | (simp [plainName, overriddenIn]; done) | decide +kernel
theorem ef_key (m : MethodId) (o0 : Addr) (o1 : Addr) (o2 : Addr) (o3 : Addr) (o4 : Addr) : entryFrame m #[(.ref o0), (.ref o1), (.ref o2), (.ref o3), (.ref o4)] 5 = mkF m 0 #[.val (.ref o0), .val (.ref o1), .val (.ref o2), .val (.ref o3), .val (.ref o4)] [] := by first | (simp [entryFrame, mkF, argsToLocals, Value.category]; done) | rfl
def Qkey (Z : State) (o0 : Addr) (o1 : Addr) (o2 : Addr) (o3 : Addr) (o4 : Addr) (h0 : Heap) (n0 : Nat) (v : Option Value) (h : Heap) (L : List Loc) : Prop := v = none ∧ Fr n0 L ∧ Keep h0 h [o0]
set_option maxRecDepth 65536 in
set_option maxHeartbeats 40000000 in
theorem rmkey (l : Launch) (Z : State) (a0 : Array Value) (hw : ∀ d ∈ tables_1, d.before a0 Z = true) (ws : List Jvm.Cond) (o0 : Addr) (o1 : Addr) (o2 : Addr) (o3 : Addr) (o4 : Addr) (h0 : Heap) (n0 : Nat) (Z0 : n0 ≤ h0.size) (E1 : Exa Z h0 o0 "com/example/kworum/kworum/model/EntryKey") (F0 : Fld Z h0 o0 "com/example/kworum/kworum/model/EntryKey" "role" "Ljava/lang/String;" .null) (F1 : Fld Z h0 o0 "com/example/kworum/kworum/model/EntryKey" "type" "Ljava/lang/String;" .null) (F2 : Fld Z h0 o0 "com/example/kworum/kworum/model/EntryKey" "right" "Ljava/lang/String;" .null) (F3 : Fld Z h0 o0 "com/example/kworum/kworum/model/EntryKey" "target" "Ljava/lang/String;" .null) (Es0 : Exa Z h0 o1 "java/lang/String") (Es1 : Exa Z h0 o2 "java/lang/String") (Es2 : Exa Z h0 o3 "java/lang/String") (Es3 : Exa Z h0 o4 "java/lang/String") (g1 : n0 ≤ o0) :
    MetFree l (⟨"com/example/kworum/kworum/model/EntryKey", "<init>", "(Ljava/lang/String;Ljava/lang/String;Ljava/lang/String;Ljava/lang/String;)V"⟩ : MethodName) (head1 (Jvm.Cond.code (⟨"com/example/kworum/kworum/model/EntryKey", "<init>", "(Ljava/lang/String;Ljava/lang/String;Ljava/lang/String;Ljava/lang/String;)V"⟩ : MethodName) prog_49_method_1_code 5 none :: ws) ({ frames := 1, cells := 0, slots := 0, locals := 13 } : Room)) (fun a U => a = #[(.ref o0), (.ref o1), (.ref o2), (.ref o3), (.ref o4)] ∧ Z.Warmed39 U.vm ∧ U.heap = h0) (fun _ _ _ _ _ => True) (fun _ U o U' => ∃ v L, o = .returned v ∧ Qkey Z o0 o1 o2 o3 o4 h0 n0 v U'.heap L ∧ FrameEnd U o U' L ({ frames := 1, cells := 0, slots := 0, locals := 13 } : Room).cells ({ frames := 1, cells := 0, slots := 0, locals := 13 } : Room).slots) := by
  refine MetFree.of_bodySF (plainFor_of_name pn_com_example_kworum_kworum_model_EntryKey) hisR ?_
  intro p e s m args below meth c s₁ Bd hml0 hP hK
  obtain ⟨rfl, hZ, hH0⟩ := hP
  have hx := Bd.exec
  have hby := Bd.bytes
  have hml : c.maxLocals = 5 := hml0
  have hown : s.vm.findClass "com/example/kworum/kworum/model/EntryKey" = some m.cls := findClass_of_methodNamed Bd.named
  have hnm := (name_of_methodNamed Bd.named Bd.method).1
  have X0 : Stand p l e ({ frames := 1, cells := 0, slots := 0, locals := 13 } : Room) s m #[(.ref o0), (.ref o1), (.ref o2), (.ref o3), (.ref o4)] below meth c s₁ [] 0 0 := Stand.of_body Bd
  have e0 : s₁.heap = h0 := by rw [← hH0, Bd.state]; rfl
  have N0 := Fr.nil n0
  refine own_cast (ef_key m o0 o1 o2 o3 o4) ?_
  show own_Go p e below (fun o U' => ∃ v L, o = .returned v ∧ Qkey Z o0 o1 o2 o3 o4 h0 n0 v U'.heap L ∧ FrameEnd s o U' L ({ frames := 1, cells := 0, slots := 0, locals := 13 } : Room).cells ({ frames := 1, cells := 0, slots := 0, locals := 13 } : Room).slots) (s₁.setTop (mkF m 0 #[.val (.ref o0), .val (.ref o1), .val (.ref o2), .val (.ref o3), .val (.ref o4)] []))
  refine own_via (fun _ => XS.aloadN X0.here hx rfl (hb hby d10_0) rfl rfl) ?_
  show own_Go p e below _ (s₁.setTop (mkF m 1 #[.val (.ref o0), .val (.ref o1), .val (.ref o2), .val (.ref o3), .val (.ref o4)] [(.ref o0)]))
  obtain ⟨T_1, X_1, e_1, st_1⟩ := initO X0 hx hZ hown (own_w hw 61 rfl) (own_w hw 23 rfl) (own_w hw 24 rfl) e0 (g := (mkF m 1 #[.val (.ref o0), .val (.ref o1), .val (.ref o2), .val (.ref o3), .val (.ref o4)] [(.ref o0)])) rfl (by rw [hml]; rfl) rfl (hb hby d10_1) (by decide) (W := 0) (by show 2 * 0 + _ ≤ _; exact Nat.le_of_eq rfl) (by decide)
  refine own_via st_1 ?_
  show own_Go p e below _ (T_1.setTop (mkF m 4 #[.val (.ref o0), .val (.ref o1), .val (.ref o2), .val (.ref o3), .val (.ref o4)] []))
  refine own_via (fun _ => XS.aloadN X_1.here hx rfl (hb hby d10_4) rfl rfl) ?_
  show own_Go p e below _ (T_1.setTop (mkF m 5 #[.val (.ref o0), .val (.ref o1), .val (.ref o2), .val (.ref o3), .val (.ref o4)] [(.ref o0)]))
  refine own_via (fun _ => XS.aloadN X_1.here hx rfl (hb hby d10_5) rfl rfl) ?_
  show own_Go p e below _ (T_1.setTop (mkF m 6 #[.val (.ref o0), .val (.ref o1), .val (.ref o2), .val (.ref o3), .val (.ref o4)] [(.ref o1), (.ref o0)]))
  obtain ⟨_, _, ⟨T_2, L_2, k_2, n_2⟩, -, X_2, ⟨Lc_2, hQ_2, l_2, y_2, z_2⟩, st_2⟩ := Jvm.LawKit.callS X_1 hx (y := (⟨"java/util/Objects", "requireNonNull", "(Ljava/lang/Object;)Ljava/lang/Object;"⟩ : MethodName)) hown (mvT hZ (own_w hw 62 rfl)) (mvT hZ (own_w hw 63 rfl)) (mvT hZ (own_w hw 64 rfl)) (mvT hZ (own_w hw 65 rfl)) (by decide) (backOf (W := 1) (rmrnn l Z a0 hw [] o1 h0 n0 Z0 ) hZ (own_w hw 65 rfl) (own_w hw 64 rfl) (by decide) (by decide)) (g := (mkF m 6 #[.val (.ref o0), .val (.ref o1), .val (.ref o2), .val (.ref o3), .val (.ref o4)] [(.ref o1), (.ref o0)])) rfl (by rw [hml]; rfl) (argsL := [(.ref o1)]) (rest := [(.ref o0)]) (lenOf pd_2 rfl) rfl (by show 2 * 0 + _ ≤ _; exact Nat.le_of_eq rfl) (hb hby d10_6) (fun _ _ => ⟨rfl, e_1, (by decide : 0 + 0 ≤ _), (by decide : 0 + 0 ≤ _)⟩)
  dsimp only [Pt.U, Pt.locs, Pt.cells, Pt.slots] at X_2 l_2 y_2 z_2 st_2 hQ_2
  subst l_2 y_2 z_2
  obtain ⟨rfl, Nq_2, e_2⟩ := hQ_2
  have N_2 := Fr.app N0 Nq_2
  refine own_via st_2 ?_
  show own_Go p e below _ (T_2.setTop (mkF m 9 #[.val (.ref o0), .val (.ref o1), .val (.ref o2), .val (.ref o3), .val (.ref o4)] [(.ref o1), (.ref o0)]))
  obtain ⟨T_3, X_3, e_3, st_3⟩ := castY X_2 hx hZ hown (own_w hw 66 rfl) e_2 (Ins.self Es0) (g := (mkF m 9 #[.val (.ref o0), .val (.ref o1), .val (.ref o2), .val (.ref o3), .val (.ref o4)] [(.ref o1), (.ref o0)])) rfl rfl (hb hby d10_9)
  refine own_via st_3 ?_
  show own_Go p e below _ (T_3.setTop (mkF m 12 #[.val (.ref o0), .val (.ref o1), .val (.ref o2), .val (.ref o3), .val (.ref o4)] [(.ref o1), (.ref o0)]))
  obtain ⟨T_4, h_4, X_4, e_4, W_4, st_4⟩ := putF X_3 hx hZ hown (host := "") (Or.inl (own_w hw 67 rfl)) Via.refl e_3 F0 E1 (Or.inr ⟨(own_w hw 68 rfl), rfl, hnm⟩) (own_w hw 56 rfl) (ty := (.object "java/lang/String")) (by decide) rfl rfl (g := (mkF m 12 #[.val (.ref o0), .val (.ref o1), .val (.ref o2), .val (.ref o3), .val (.ref o4)] [(.ref o1), (.ref o0)])) rfl rfl (hb hby d10_12)
  have F_5 : Fld Z h_4 o0 "com/example/kworum/kworum/model/EntryKey" "type" "Ljava/lang/String;" .null := F1.other W_4 (Or.inr (slot_ne (Or.inr (own_w hw 70 rfl)) (Or.inr (own_w hw 68 rfl)) (by decide) (t := (.object "java/lang/String")) (t' := (.object "java/lang/String")) (by decide) (by decide)))
  have F_6 : Fld Z h_4 o0 "com/example/kworum/kworum/model/EntryKey" "right" "Ljava/lang/String;" .null := F2.other W_4 (Or.inr (slot_ne (Or.inr (own_w hw 72 rfl)) (Or.inr (own_w hw 68 rfl)) (by decide) (t := (.object "java/lang/String")) (t' := (.object "java/lang/String")) (by decide) (by decide)))
  have F_7 : Fld Z h_4 o0 "com/example/kworum/kworum/model/EntryKey" "target" "Ljava/lang/String;" .null := F3.other W_4 (Or.inr (slot_ne (Or.inr (own_w hw 74 rfl)) (Or.inr (own_w hw 68 rfl)) (by decide) (t := (.object "java/lang/String")) (t' := (.object "java/lang/String")) (by decide) (by decide)))
  have F_8 : Fld Z h_4 o0 "com/example/kworum/kworum/model/EntryKey" "role" "Ljava/lang/String;" (.ref o1) := F0.same W_4
  have N_4 := Fr.snoc X_4 N_2 g1
  refine own_via st_4 ?_
  show own_Go p e below _ (T_4.setTop (mkF m 15 #[.val (.ref o0), .val (.ref o1), .val (.ref o2), .val (.ref o3), .val (.ref o4)] []))
  refine own_via (fun _ => XS.aloadN X_4.here hx rfl (hb hby d10_15) rfl rfl) ?_
  show own_Go p e below _ (T_4.setTop (mkF m 16 #[.val (.ref o0), .val (.ref o1), .val (.ref o2), .val (.ref o3), .val (.ref o4)] [(.ref o0)]))
  refine own_via (fun _ => XS.aloadN X_4.here hx rfl (hb hby d10_16) rfl rfl) ?_
  show own_Go p e below _ (T_4.setTop (mkF m 17 #[.val (.ref o0), .val (.ref o1), .val (.ref o2), .val (.ref o3), .val (.ref o4)] [(.ref o2), (.ref o0)]))
  have K_9 : Keep h0 h_4 [o0] := Keep.wr (ws := [o0]) (own_keep_mono (Keep.refl h0 []) (by simp)) W_4 (Or.inl (List.mem_of_getElem? (i := 0) rfl))
  obtain ⟨_, _, ⟨T_10, L_10, k_10, n_10⟩, -, X_10, ⟨Lc_10, hQ_10, l_10, y_10, z_10⟩, st_10⟩ := Jvm.LawKit.callS X_4 hx (y := (⟨"java/util/Objects", "requireNonNull", "(Ljava/lang/Object;)Ljava/lang/Object;"⟩ : MethodName)) hown (mvT hZ (own_w hw 62 rfl)) (mvT hZ (own_w hw 63 rfl)) (mvT hZ (own_w hw 64 rfl)) (mvT hZ (own_w hw 65 rfl)) (by decide) (backOf (W := 1) (rmrnn l Z a0 hw [] o2 h_4 n0 (Nat.le_trans Z0 K_9.1) ) hZ (own_w hw 65 rfl) (own_w hw 64 rfl) (by decide) (by decide)) (g := (mkF m 17 #[.val (.ref o0), .val (.ref o1), .val (.ref o2), .val (.ref o3), .val (.ref o4)] [(.ref o2), (.ref o0)])) rfl (by rw [hml]; rfl) (argsL := [(.ref o2)]) (rest := [(.ref o0)]) (lenOf pd_2 rfl) rfl (by show 2 * 0 + _ ≤ _; exact Nat.le_of_eq rfl) (hb hby d10_17) (fun _ _ => ⟨rfl, e_4, (by decide : 0 + 0 ≤ _), (by decide : 0 + 0 ≤ _)⟩)
  dsimp only [Pt.U, Pt.locs, Pt.cells, Pt.slots] at X_10 l_10 y_10 z_10 st_10 hQ_10
  subst l_10 y_10 z_10
  obtain ⟨rfl, Nq_10, e_10⟩ := hQ_10
  have N_10 := Fr.app N_4 Nq_10
  refine own_via st_10 ?_
  show own_Go p e below _ (T_10.setTop (mkF m 20 #[.val (.ref o0), .val (.ref o1), .val (.ref o2), .val (.ref o3), .val (.ref o4)] [(.ref o2), (.ref o0)]))
  obtain ⟨T_11, X_11, e_11, st_11⟩ := castY X_10 hx hZ hown (own_w hw 66 rfl) e_10 (Ins.self (Es1.keep K_9)) (g := (mkF m 20 #[.val (.ref o0), .val (.ref o1), .val (.ref o2), .val (.ref o3), .val (.ref o4)] [(.ref o2), (.ref o0)])) rfl rfl (hb hby d10_20)
  refine own_via st_11 ?_
  show own_Go p e below _ (T_11.setTop (mkF m 23 #[.val (.ref o0), .val (.ref o1), .val (.ref o2), .val (.ref o3), .val (.ref o4)] [(.ref o2), (.ref o0)]))
  obtain ⟨T_12, h_12, X_12, e_12, W_12, st_12⟩ := putF X_11 hx hZ hown (host := "") (Or.inl (own_w hw 69 rfl)) Via.refl e_11 F_5 (E1.keep K_9) (Or.inr ⟨(own_w hw 70 rfl), rfl, hnm⟩) (own_w hw 56 rfl) (ty := (.object "java/lang/String")) (by decide) rfl rfl (g := (mkF m 23 #[.val (.ref o0), .val (.ref o1), .val (.ref o2), .val (.ref o3), .val (.ref o4)] [(.ref o2), (.ref o0)])) rfl rfl (hb hby d10_23)
  have F_13 : Fld Z h_12 o0 "com/example/kworum/kworum/model/EntryKey" "right" "Ljava/lang/String;" .null := F_6.other W_12 (Or.inr (slot_ne (Or.inr (own_w hw 72 rfl)) (Or.inr (own_w hw 70 rfl)) (by decide) (t := (.object "java/lang/String")) (t' := (.object "java/lang/String")) (by decide) (by decide)))
  have F_14 : Fld Z h_12 o0 "com/example/kworum/kworum/model/EntryKey" "target" "Ljava/lang/String;" .null := F_7.other W_12 (Or.inr (slot_ne (Or.inr (own_w hw 74 rfl)) (Or.inr (own_w hw 70 rfl)) (by decide) (t := (.object "java/lang/String")) (t' := (.object "java/lang/String")) (by decide) (by decide)))
  have F_15 : Fld Z h_12 o0 "com/example/kworum/kworum/model/EntryKey" "role" "Ljava/lang/String;" (.ref o1) := F_8.other W_12 (Or.inr (slot_ne (Or.inr (own_w hw 68 rfl)) (Or.inr (own_w hw 70 rfl)) (by decide) (t := (.object "java/lang/String")) (t' := (.object "java/lang/String")) (by decide) (by decide)))
  have F_16 : Fld Z h_12 o0 "com/example/kworum/kworum/model/EntryKey" "type" "Ljava/lang/String;" (.ref o2) := F_5.same W_12
  have N_12 := Fr.snoc X_12 N_10 g1
  refine own_via st_12 ?_
  show own_Go p e below _ (T_12.setTop (mkF m 26 #[.val (.ref o0), .val (.ref o1), .val (.ref o2), .val (.ref o3), .val (.ref o4)] []))
  refine own_via (fun _ => XS.aloadN X_12.here hx rfl (hb hby d10_26) rfl rfl) ?_
  show own_Go p e below _ (T_12.setTop (mkF m 27 #[.val (.ref o0), .val (.ref o1), .val (.ref o2), .val (.ref o3), .val (.ref o4)] [(.ref o0)]))
  refine own_via (fun _ => XS.aloadN X_12.here hx rfl (hb hby d10_27) rfl rfl) ?_
  show own_Go p e below _ (T_12.setTop (mkF m 28 #[.val (.ref o0), .val (.ref o1), .val (.ref o2), .val (.ref o3), .val (.ref o4)] [(.ref o3), (.ref o0)]))
  have K_17 : Keep h0 h_12 [o0] := Keep.wr (ws := [o0]) K_9 W_12 (Or.inl (List.mem_of_getElem? (i := 0) rfl))
  obtain ⟨_, _, ⟨T_18, L_18, k_18, n_18⟩, -, X_18, ⟨Lc_18, hQ_18, l_18, y_18, z_18⟩, st_18⟩ := Jvm.LawKit.callS X_12 hx (y := (⟨"java/util/Objects", "requireNonNull", "(Ljava/lang/Object;)Ljava/lang/Object;"⟩ : MethodName)) hown (mvT hZ (own_w hw 62 rfl)) (mvT hZ (own_w hw 63 rfl)) (mvT hZ (own_w hw 64 rfl)) (mvT hZ (own_w hw 65 rfl)) (by decide) (backOf (W := 1) (rmrnn l Z a0 hw [] o3 h_12 n0 (Nat.le_trans Z0 K_17.1) ) hZ (own_w hw 65 rfl) (own_w hw 64 rfl) (by decide) (by decide)) (g := (mkF m 28 #[.val (.ref o0), .val (.ref o1), .val (.ref o2), .val (.ref o3), .val (.ref o4)] [(.ref o3), (.ref o0)])) rfl (by rw [hml]; rfl) (argsL := [(.ref o3)]) (rest := [(.ref o0)]) (lenOf pd_2 rfl) rfl (by show 2 * 0 + _ ≤ _; exact Nat.le_of_eq rfl) (hb hby d10_28) (fun _ _ => ⟨rfl, e_12, (by decide : 0 + 0 ≤ _), (by decide : 0 + 0 ≤ _)⟩)
  dsimp only [Pt.U, Pt.locs, Pt.cells, Pt.slots] at X_18 l_18 y_18 z_18 st_18 hQ_18
  subst l_18 y_18 z_18
  obtain ⟨rfl, Nq_18, e_18⟩ := hQ_18
  have N_18 := Fr.app N_12 Nq_18
  refine own_via st_18 ?_
  show own_Go p e below _ (T_18.setTop (mkF m 31 #[.val (.ref o0), .val (.ref o1), .val (.ref o2), .val (.ref o3), .val (.ref o4)] [(.ref o3), (.ref o0)]))
  obtain ⟨T_19, X_19, e_19, st_19⟩ := castY X_18 hx hZ hown (own_w hw 66 rfl) e_18 (Ins.self (Es2.keep K_17)) (g := (mkF m 31 #[.val (.ref o0), .val (.ref o1), .val (.ref o2), .val (.ref o3), .val (.ref o4)] [(.ref o3), (.ref o0)])) rfl rfl (hb hby d10_31)
  refine own_via st_19 ?_
  show own_Go p e below _ (T_19.setTop (mkF m 34 #[.val (.ref o0), .val (.ref o1), .val (.ref o2), .val (.ref o3), .val (.ref o4)] [(.ref o3), (.ref o0)]))
  obtain ⟨T_20, h_20, X_20, e_20, W_20, st_20⟩ := putF X_19 hx hZ hown (host := "") (Or.inl (own_w hw 71 rfl)) Via.refl e_19 F_13 (E1.keep K_17) (Or.inr ⟨(own_w hw 72 rfl), rfl, hnm⟩) (own_w hw 56 rfl) (ty := (.object "java/lang/String")) (by decide) rfl rfl (g := (mkF m 34 #[.val (.ref o0), .val (.ref o1), .val (.ref o2), .val (.ref o3), .val (.ref o4)] [(.ref o3), (.ref o0)])) rfl rfl (hb hby d10_34)
  have F_21 : Fld Z h_20 o0 "com/example/kworum/kworum/model/EntryKey" "target" "Ljava/lang/String;" .null := F_14.other W_20 (Or.inr (slot_ne (Or.inr (own_w hw 74 rfl)) (Or.inr (own_w hw 72 rfl)) (by decide) (t := (.object "java/lang/String")) (t' := (.object "java/lang/String")) (by decide) (by decide)))
  have F_22 : Fld Z h_20 o0 "com/example/kworum/kworum/model/EntryKey" "role" "Ljava/lang/String;" (.ref o1) := F_15.other W_20 (Or.inr (slot_ne (Or.inr (own_w hw 68 rfl)) (Or.inr (own_w hw 72 rfl)) (by decide) (t := (.object "java/lang/String")) (t' := (.object "java/lang/String")) (by decide) (by decide)))
  have F_23 : Fld Z h_20 o0 "com/example/kworum/kworum/model/EntryKey" "type" "Ljava/lang/String;" (.ref o2) := F_16.other W_20 (Or.inr (slot_ne (Or.inr (own_w hw 70 rfl)) (Or.inr (own_w hw 72 rfl)) (by decide) (t := (.object "java/lang/String")) (t' := (.object "java/lang/String")) (by decide) (by decide)))
  have F_24 : Fld Z h_20 o0 "com/example/kworum/kworum/model/EntryKey" "right" "Ljava/lang/String;" (.ref o3) := F_13.same W_20
  have N_20 := Fr.snoc X_20 N_18 g1
  refine own_via st_20 ?_
  show own_Go p e below _ (T_20.setTop (mkF m 37 #[.val (.ref o0), .val (.ref o1), .val (.ref o2), .val (.ref o3), .val (.ref o4)] []))
  refine own_via (fun _ => XS.aloadN X_20.here hx rfl (hb hby d10_37) rfl rfl) ?_
  show own_Go p e below _ (T_20.setTop (mkF m 38 #[.val (.ref o0), .val (.ref o1), .val (.ref o2), .val (.ref o3), .val (.ref o4)] [(.ref o0)]))
  refine own_via (fun _ => XS.aload X_20.here hx rfl (hb hby d10_38) rfl rfl) ?_
  show own_Go p e below _ (T_20.setTop (mkF m 40 #[.val (.ref o0), .val (.ref o1), .val (.ref o2), .val (.ref o3), .val (.ref o4)] [(.ref o4), (.ref o0)]))
  have K_25 : Keep h0 h_20 [o0] := Keep.wr (ws := [o0]) K_17 W_20 (Or.inl (List.mem_of_getElem? (i := 0) rfl))
  obtain ⟨_, _, ⟨T_26, L_26, k_26, n_26⟩, -, X_26, ⟨Lc_26, hQ_26, l_26, y_26, z_26⟩, st_26⟩ := Jvm.LawKit.callS X_20 hx (y := (⟨"java/util/Objects", "requireNonNull", "(Ljava/lang/Object;)Ljava/lang/Object;"⟩ : MethodName)) hown (mvT hZ (own_w hw 62 rfl)) (mvT hZ (own_w hw 63 rfl)) (mvT hZ (own_w hw 64 rfl)) (mvT hZ (own_w hw 65 rfl)) (by decide) (backOf (W := 1) (rmrnn l Z a0 hw [] o4 h_20 n0 (Nat.le_trans Z0 K_25.1) ) hZ (own_w hw 65 rfl) (own_w hw 64 rfl) (by decide) (by decide)) (g := (mkF m 40 #[.val (.ref o0), .val (.ref o1), .val (.ref o2), .val (.ref o3), .val (.ref o4)] [(.ref o4), (.ref o0)])) rfl (by rw [hml]; rfl) (argsL := [(.ref o4)]) (rest := [(.ref o0)]) (lenOf pd_2 rfl) rfl (by show 2 * 0 + _ ≤ _; exact Nat.le_of_eq rfl) (hb hby d10_40) (fun _ _ => ⟨rfl, e_20, (by decide : 0 + 0 ≤ _), (by decide : 0 + 0 ≤ _)⟩)
  dsimp only [Pt.U, Pt.locs, Pt.cells, Pt.slots] at X_26 l_26 y_26 z_26 st_26 hQ_26
  subst l_26 y_26 z_26
  obtain ⟨rfl, Nq_26, e_26⟩ := hQ_26
  have N_26 := Fr.app N_20 Nq_26
  refine own_via st_26 ?_
  show own_Go p e below _ (T_26.setTop (mkF m 43 #[.val (.ref o0), .val (.ref o1), .val (.ref o2), .val (.ref o3), .val (.ref o4)] [(.ref o4), (.ref o0)]))
  obtain ⟨T_27, X_27, e_27, st_27⟩ := castY X_26 hx hZ hown (own_w hw 66 rfl) e_26 (Ins.self (Es3.keep K_25)) (g := (mkF m 43 #[.val (.ref o0), .val (.ref o1), .val (.ref o2), .val (.ref o3), .val (.ref o4)] [(.ref o4), (.ref o0)])) rfl rfl (hb hby d10_43)
  refine own_via st_27 ?_
  show own_Go p e below _ (T_27.setTop (mkF m 46 #[.val (.ref o0), .val (.ref o1), .val (.ref o2), .val (.ref o3), .val (.ref o4)] [(.ref o4), (.ref o0)]))
  obtain ⟨T_28, h_28, X_28, e_28, W_28, st_28⟩ := putF X_27 hx hZ hown (host := "") (Or.inl (own_w hw 73 rfl)) Via.refl e_27 F_21 (E1.keep K_25) (Or.inr ⟨(own_w hw 74 rfl), rfl, hnm⟩) (own_w hw 56 rfl) (ty := (.object "java/lang/String")) (by decide) rfl rfl (g := (mkF m 46 #[.val (.ref o0), .val (.ref o1), .val (.ref o2), .val (.ref o3), .val (.ref o4)] [(.ref o4), (.ref o0)])) rfl rfl (hb hby d10_46)
  have F_29 : Fld Z h_28 o0 "com/example/kworum/kworum/model/EntryKey" "role" "Ljava/lang/String;" (.ref o1) := F_22.other W_28 (Or.inr (slot_ne (Or.inr (own_w hw 68 rfl)) (Or.inr (own_w hw 74 rfl)) (by decide) (t := (.object "java/lang/String")) (t' := (.object "java/lang/String")) (by decide) (by decide)))
  have F_30 : Fld Z h_28 o0 "com/example/kworum/kworum/model/EntryKey" "type" "Ljava/lang/String;" (.ref o2) := F_23.other W_28 (Or.inr (slot_ne (Or.inr (own_w hw 70 rfl)) (Or.inr (own_w hw 74 rfl)) (by decide) (t := (.object "java/lang/String")) (t' := (.object "java/lang/String")) (by decide) (by decide)))
  have F_31 : Fld Z h_28 o0 "com/example/kworum/kworum/model/EntryKey" "right" "Ljava/lang/String;" (.ref o3) := F_24.other W_28 (Or.inr (slot_ne (Or.inr (own_w hw 72 rfl)) (Or.inr (own_w hw 74 rfl)) (by decide) (t := (.object "java/lang/String")) (t' := (.object "java/lang/String")) (by decide) (by decide)))
  have F_32 : Fld Z h_28 o0 "com/example/kworum/kworum/model/EntryKey" "target" "Ljava/lang/String;" (.ref o4) := F_21.same W_28
  have N_28 := Fr.snoc X_28 N_26 g1
  refine own_via st_28 ?_
  show own_Go p e below _ (T_28.setTop (mkF m 49 #[.val (.ref o0), .val (.ref o1), .val (.ref o2), .val (.ref o3), .val (.ref o4)] []))
  have K_33 : Keep h0 h_28 [o0] := Keep.wr (ws := [o0]) K_25 W_28 (Or.inl (List.mem_of_getElem? (i := 0) rfl))
  exact own_ret0 X_28 Bd.notSynchronized hx Bd.returns (hb hby d10_49) (by decide) (by decide) (by rw [e_28]; exact ⟨rfl, N_28, K_33⟩)
theorem d12_0 : decode prog_46_method_9_code 0 = .ok (.aload_n 1, 1) := by decide +kernel
theorem d12_1 : decode prog_46_method_9_code 1 = .ok (.instanceof 8, 3) := by decide +kernel
theorem d12_4 : decode prog_46_method_9_code 4 = .ok (.ifCond .eq 82, 3) := by decide +kernel
theorem d12_7 : decode prog_46_method_9_code 7 = .ok (.aload_n 1, 1) := by decide +kernel
theorem d12_8 : decode prog_46_method_9_code 8 = .ok (.checkcast 8, 3) := by decide +kernel
theorem d12_11 : decode prog_46_method_9_code 11 = .ok (.astore_n 2, 1) := by decide +kernel
theorem d12_12 : decode prog_46_method_9_code 12 = .ok (.aload_n 0, 1) := by decide +kernel
theorem d12_13 : decode prog_46_method_9_code 13 = .ok (.getfield 7, 3) := by decide +kernel
theorem d12_16 : decode prog_46_method_9_code 16 = .ok (.aload_n 2, 1) := by decide +kernel
theorem d12_17 : decode prog_46_method_9_code 17 = .ok (.getfield 7, 3) := by decide +kernel
theorem d12_20 : decode prog_46_method_9_code 20 = .ok (.invokevirtual 34, 3) := by decide +kernel
theorem d12_23 : decode prog_46_method_9_code 23 = .ok (.ifCond .eq 63, 3) := by decide +kernel
theorem d12_26 : decode prog_46_method_9_code 26 = .ok (.aload_n 0, 1) := by decide +kernel
theorem d12_27 : decode prog_46_method_9_code 27 = .ok (.getfield 13, 3) := by decide +kernel
theorem d12_30 : decode prog_46_method_9_code 30 = .ok (.aload_n 2, 1) := by decide +kernel
theorem d12_31 : decode prog_46_method_9_code 31 = .ok (.getfield 13, 3) := by decide +kernel
theorem d12_34 : decode prog_46_method_9_code 34 = .ok (.invokevirtual 34, 3) := by decide +kernel
theorem d12_37 : decode prog_46_method_9_code 37 = .ok (.ifCond .eq 49, 3) := by decide +kernel
theorem d12_40 : decode prog_46_method_9_code 40 = .ok (.aload_n 0, 1) := by decide +kernel
theorem d12_41 : decode prog_46_method_9_code 41 = .ok (.getfield 16, 3) := by decide +kernel
theorem d12_44 : decode prog_46_method_9_code 44 = .ok (.aload_n 2, 1) := by decide +kernel
theorem d12_45 : decode prog_46_method_9_code 45 = .ok (.getfield 16, 3) := by decide +kernel
theorem d12_48 : decode prog_46_method_9_code 48 = .ok (.invokevirtual 34, 3) := by decide +kernel
theorem d12_51 : decode prog_46_method_9_code 51 = .ok (.ifCond .eq 35, 3) := by decide +kernel
theorem d12_54 : decode prog_46_method_9_code 54 = .ok (.aload_n 0, 1) := by decide +kernel
theorem d12_55 : decode prog_46_method_9_code 55 = .ok (.getfield 19, 3) := by decide +kernel
theorem d12_58 : decode prog_46_method_9_code 58 = .ok (.aload_n 2, 1) := by decide +kernel
theorem d12_59 : decode prog_46_method_9_code 59 = .ok (.getfield 19, 3) := by decide +kernel
theorem d12_62 : decode prog_46_method_9_code 62 = .ok (.invokevirtual 34, 3) := by decide +kernel
theorem d12_65 : decode prog_46_method_9_code 65 = .ok (.ifCond .eq 21, 3) := by decide +kernel
theorem d12_68 : decode prog_46_method_9_code 68 = .ok (.aload_n 0, 1) := by decide +kernel
theorem d12_69 : decode prog_46_method_9_code 69 = .ok (.getfield 22, 3) := by decide +kernel
theorem d12_72 : decode prog_46_method_9_code 72 = .ok (.aload_n 2, 1) := by decide +kernel
theorem d12_73 : decode prog_46_method_9_code 73 = .ok (.getfield 22, 3) := by decide +kernel
theorem d12_76 : decode prog_46_method_9_code 76 = .ok (.invokevirtual 34, 3) := by decide +kernel
theorem d12_79 : decode prog_46_method_9_code 79 = .ok (.ifCond .eq 7, 3) := by decide +kernel
theorem d12_82 : decode prog_46_method_9_code 82 = .ok (.iconst 1, 1) := by decide +kernel
theorem d12_83 : decode prog_46_method_9_code 83 = .ok (.goto 4, 3) := by decide +kernel
theorem d12_86 : decode prog_46_method_9_code 86 = .ok (.iconst 0, 1) := by decide +kernel
theorem d12_87 : decode prog_46_method_9_code 87 = .ok (.ireturn, 1) := by decide +kernel
theorem pd_3 : parseMethodDescriptor "(Ljava/lang/Object;)Z" = some ⟨[(.object "java/lang/Object")], some .boolean⟩ := by decide +kernel
theorem ef_eqN (m : MethodId) (a1 : Addr) : entryFrame m #[(.ref a1), .null] 3 = mkF m 0 #[.val (.ref a1), .val .null, .unset] [] := by first | (simp [entryFrame, mkF, argsToLocals, Value.category]; done) | rfl
def QeqN (Z : State) (a1 : Addr) (h0 : Heap) (n0 : Nat) (v : Option Value) (h : Heap) (L : List Loc) : Prop := v = some (.int (0 : Int32)) ∧ Fr n0 L ∧ h = h0
set_option maxRecDepth 65536 in
set_option maxHeartbeats 40000000 in
theorem rmeqN (l : Launch) (Z : State) (a0 : Array Value) (hw : ∀ d ∈ tables_1, d.before a0 Z = true) (ws : List Jvm.Cond) (a1 : Addr) (h0 : Heap) (n0 : Nat) (Z0 : n0 ≤ h0.size) :
    MetFree l (⟨"com/example/kworum/kworum/model/Entry", "equals", "(Ljava/lang/Object;)Z"⟩ : MethodName) (head1 (Jvm.Cond.code (⟨"com/example/kworum/kworum/model/Entry", "equals", "(Ljava/lang/Object;)Z"⟩ : MethodName) prog_46_method_9_code 3 (some .boolean) :: ws) ({ frames := 0, cells := 0, slots := 0, locals := 0 } : Room)) (fun a U => a = #[(.ref a1), .null] ∧ Z.Warmed39 U.vm ∧ U.heap = h0) (fun _ _ _ _ _ => True) (fun _ U o U' => ∃ v L, o = .returned v ∧ QeqN Z a1 h0 n0 v U'.heap L ∧ FrameEnd U o U' L ({ frames := 0, cells := 0, slots := 0, locals := 0 } : Room).cells ({ frames := 0, cells := 0, slots := 0, locals := 0 } : Room).slots) := by
  refine MetFree.of_bodySF (plainFor_of_name pn_com_example_kworum_kworum_model_Entry) hisR ?_
  intro p e s m args below meth c s₁ Bd hml0 hP hK
  obtain ⟨rfl, hZ, hH0⟩ := hP
  have hx := Bd.exec
  have hby := Bd.bytes
  have hml : c.maxLocals = 3 := hml0
  have hown : s.vm.findClass "com/example/kworum/kworum/model/Entry" = some m.cls := findClass_of_methodNamed Bd.named
  have hnm := (name_of_methodNamed Bd.named Bd.method).1
  have X0 : Stand p l e ({ frames := 0, cells := 0, slots := 0, locals := 0 } : Room) s m #[(.ref a1), .null] below meth c s₁ [] 0 0 := Stand.of_body Bd
  have e0 : s₁.heap = h0 := by rw [← hH0, Bd.state]; rfl
  have N0 := Fr.nil n0
  refine own_cast (ef_eqN m a1) ?_
  show own_Go p e below (fun o U' => ∃ v L, o = .returned v ∧ QeqN Z a1 h0 n0 v U'.heap L ∧ FrameEnd s o U' L ({ frames := 0, cells := 0, slots := 0, locals := 0 } : Room).cells ({ frames := 0, cells := 0, slots := 0, locals := 0 } : Room).slots) (s₁.setTop (mkF m 0 #[.val (.ref a1), .val .null, .unset] []))
  refine own_via (fun _ => XS.aloadN X0.here hx rfl (hb hby d12_0) rfl rfl) ?_
  show own_Go p e below _ (s₁.setTop (mkF m 1 #[.val (.ref a1), .val .null, .unset] [.null]))
  refine own_via (X0.instanceofNull hx (g := (mkF m 1 #[.val (.ref a1), .val .null, .unset] [.null])) rfl rfl (hb hby d12_1)) ?_
  show own_Go p e below _ (s₁.setTop (mkF m 4 #[.val (.ref a1), .val .null, .unset] [(.int (0 : Int32))]))
  refine own_via (fun _ => XS.ifYes X0.here hx rfl (pc0 := 4) (pc' := 86) rfl (hb hby d12_4) rfl ((if0 _ _).trans (teq ((by decide) : (0 : Int32) = (0 : Int32))).1) (by decide) (by decide)) ?_
  show own_Go p e below _ (s₁.setTop (mkF m 86 #[.val (.ref a1), .val .null, .unset] []))
  refine own_via (fun _ => XS.iconst X0.here hx rfl (hb hby d12_86)) ?_
  show own_Go p e below _ (s₁.setTop (mkF m 87 #[.val (.ref a1), .val .null, .unset] [(.int (0 : Int32))]))
  exact own_retv X0 Bd.notSynchronized hx Bd.returns rfl (Or.inl ⟨rfl, (by simp), _, rfl⟩) (hb hby d12_87) (by decide) (by decide) (by rw [e0]; exact ⟨rfl, N0, rfl⟩)
theorem own_notEntry {Z : State} {a0 : Array Value} (hw : ∀ d ∈ tables_1, d.before a0 Z = true) : ∃ c t, Z.vm.findClass "com/example/kworum/kworum/model/EntryKey" = some c ∧ Z.vm.findClass "com/example/kworum/kworum/model/Entry" = some t ∧ Z.vm.assignable c t = false := by
  obtain ⟨t, kt, g0, g2, g5, g7, -⟩ := Cond.instantiable_spec (show (Jvm.Cond.instantiable _ _).before a0 Z = true from (own_w hw 6 rfl))
  obtain ⟨co, ko, r1, r2, r3, -, -⟩ := Cond.noSuperclass_spec (show (Jvm.Cond.noSuperclass _).before a0 Z = true from (own_w hw 82 rfl))
  have w : (Jvm.Cond.superclass "com/example/kworum/kworum/model/EntryKey" "java/lang/Object").before a0 Z = true := (own_w hw 81 rfl)
  obtain ⟨c, h0⟩ := found_sup w
  obtain ⟨q, k, kp, h1, h2, h3, h4, h5, h6, h7⟩ := Cond.superclass_spec h0 w
  cases r1.symm.trans h1
  have ne := ids_ne h0 g0 (by decide)
  have ne2 := ids_ne r1 g0 (by decide)
  have n3 : ∀ fuel, Z.vm.isSubclassAux fuel c t = false := by
    intro fuel
    cases fuel with
    | zero => rfl
    | succ f =>
      cases f with
      | zero => simp [Vm.isSubclassAux, ne, h2, h4]
      | succ f' => simp [Vm.isSubclassAux, ne, ne2, h2, h4, r2, r3]
  have g8 := (Bool.or_eq_false_iff.mp g7).1
  refine ⟨c, t, h0, g0, ?_⟩
  show Z.vm.assignableAux (255 + 1) c t = false
  simp [Vm.assignableAux, ne, h2, g2, h5, g5, g8, Vm.isSubclass, n3]

theorem ef_eqK (m : MethodId) (a1 : Addr) (a2 : Addr) : entryFrame m #[(.ref a1), (.ref a2)] 3 = mkF m 0 #[.val (.ref a1), .val (.ref a2), .unset] [] := by first | (simp [entryFrame, mkF, argsToLocals, Value.category]; done) | rfl
def QeqK (Z : State) (a1 : Addr) (a2 : Addr) (h0 : Heap) (n0 : Nat) (v : Option Value) (h : Heap) (L : List Loc) : Prop := v = some (.int (0 : Int32)) ∧ Fr n0 L ∧ h = h0
set_option maxRecDepth 65536 in
set_option maxHeartbeats 40000000 in
theorem rmeqK (l : Launch) (Z : State) (a0 : Array Value) (hw : ∀ d ∈ tables_1, d.before a0 Z = true) (ws : List Jvm.Cond) (a1 : Addr) (a2 : Addr) (h0 : Heap) (n0 : Nat) (Z0 : n0 ≤ h0.size) (E2 : Exa Z h0 a2 "com/example/kworum/kworum/model/EntryKey") :
    MetFree l (⟨"com/example/kworum/kworum/model/Entry", "equals", "(Ljava/lang/Object;)Z"⟩ : MethodName) (head1 (Jvm.Cond.code (⟨"com/example/kworum/kworum/model/Entry", "equals", "(Ljava/lang/Object;)Z"⟩ : MethodName) prog_46_method_9_code 3 (some .boolean) :: ws) ({ frames := 0, cells := 0, slots := 0, locals := 0 } : Room)) (fun a U => a = #[(.ref a1), (.ref a2)] ∧ Z.Warmed39 U.vm ∧ U.heap = h0) (fun _ _ _ _ _ => True) (fun _ U o U' => ∃ v L, o = .returned v ∧ QeqK Z a1 a2 h0 n0 v U'.heap L ∧ FrameEnd U o U' L ({ frames := 0, cells := 0, slots := 0, locals := 0 } : Room).cells ({ frames := 0, cells := 0, slots := 0, locals := 0 } : Room).slots) := by
  refine MetFree.of_bodySF (plainFor_of_name pn_com_example_kworum_kworum_model_Entry) hisR ?_
  intro p e s m args below meth c s₁ Bd hml0 hP hK
  obtain ⟨rfl, hZ, hH0⟩ := hP
  have hx := Bd.exec
  have hby := Bd.bytes
  have hml : c.maxLocals = 3 := hml0
  have hown : s.vm.findClass "com/example/kworum/kworum/model/Entry" = some m.cls := findClass_of_methodNamed Bd.named
  have hnm := (name_of_methodNamed Bd.named Bd.method).1
  have X0 : Stand p l e ({ frames := 0, cells := 0, slots := 0, locals := 0 } : Room) s m #[(.ref a1), (.ref a2)] below meth c s₁ [] 0 0 := Stand.of_body Bd
  have e0 : s₁.heap = h0 := by rw [← hH0, Bd.state]; rfl
  have N0 := Fr.nil n0
  refine own_cast (ef_eqK m a1 a2) ?_
  show own_Go p e below (fun o U' => ∃ v L, o = .returned v ∧ QeqK Z a1 a2 h0 n0 v U'.heap L ∧ FrameEnd s o U' L ({ frames := 0, cells := 0, slots := 0, locals := 0 } : Room).cells ({ frames := 0, cells := 0, slots := 0, locals := 0 } : Room).slots) (s₁.setTop (mkF m 0 #[.val (.ref a1), .val (.ref a2), .unset] []))
  refine own_via (fun _ => XS.aloadN X0.here hx rfl (hb hby d12_0) rfl rfl) ?_
  show own_Go p e below _ (s₁.setTop (mkF m 1 #[.val (.ref a1), .val (.ref a2), .unset] [(.ref a2)]))
  obtain ⟨T_1, X_1, e_1, st_1⟩ := instNo X0 hx hZ hown (own_w hw 80 rfl) e0 E2 (own_notEntry hw) (g := (mkF m 1 #[.val (.ref a1), .val (.ref a2), .unset] [(.ref a2)])) rfl rfl (hb hby d12_1)
  refine own_via st_1 ?_
  show own_Go p e below _ (T_1.setTop (mkF m 4 #[.val (.ref a1), .val (.ref a2), .unset] [(.int (0 : Int32))]))
  refine own_via (fun _ => XS.ifYes X_1.here hx rfl (pc0 := 4) (pc' := 86) rfl (hb hby d12_4) rfl ((if0 _ _).trans (teq ((by decide) : (0 : Int32) = (0 : Int32))).1) (by decide) (by decide)) ?_
  show own_Go p e below _ (T_1.setTop (mkF m 86 #[.val (.ref a1), .val (.ref a2), .unset] []))
  refine own_via (fun _ => XS.iconst X_1.here hx rfl (hb hby d12_86)) ?_
  show own_Go p e below _ (T_1.setTop (mkF m 87 #[.val (.ref a1), .val (.ref a2), .unset] [(.int (0 : Int32))]))
  exact own_retv X_1 Bd.notSynchronized hx Bd.returns rfl (Or.inl ⟨rfl, (by simp), _, rfl⟩) (hb hby d12_87) (by decide) (by decide) (by rw [e_1]; exact ⟨rfl, N0, rfl⟩)
theorem ef_eqE (m : MethodId) (a1 : Addr) (a2 : Addr) : entryFrame m #[(.ref a1), (.ref a2)] 3 = mkF m 0 #[.val (.ref a1), .val (.ref a2), .unset] [] := by first | (simp [entryFrame, mkF, argsToLocals, Value.category]; done) | rfl
def QeqE (Z : State) (a1 : Addr) (a2 : Addr) (s0 : Addr) (s1 : Addr) (s2 : Addr) (s3 : Addr) (s4 : Addr) (t0 : Addr) (t1 : Addr) (t2 : Addr) (t3 : Addr) (t4 : Addr) (x0 : Int32) (x1 : Int32) (x2 : Int32) (x3 : Int32) (x4 : Int32) (y0 : Int32) (y1 : Int32) (y2 : Int32) (y3 : Int32) (y4 : Int32) (cs : Int32) (h0 : Heap) (n0 : Nat) (v : Option Value) (h : Heap) (L : List Loc) : Prop := ∃ z : Int32, v = some (.int z) ∧ Fr n0 L ∧ h = h0 ∧ (z = if x0 = y0 ∧ x1 = y1 ∧ x2 = y2 ∧ x3 = y3 ∧ x4 = y4 then 1 else 0)
set_option maxRecDepth 65536 in
set_option maxHeartbeats 40000000 in
theorem rmeqE (l : Launch) (Z : State) (a0 : Array Value) (hw : ∀ d ∈ tables_1, d.before a0 Z = true) (ws : List Jvm.Cond) (a1 : Addr) (a2 : Addr) (s0 : Addr) (s1 : Addr) (s2 : Addr) (s3 : Addr) (s4 : Addr) (t0 : Addr) (t1 : Addr) (t2 : Addr) (t3 : Addr) (t4 : Addr) (x0 : Int32) (x1 : Int32) (x2 : Int32) (x3 : Int32) (x4 : Int32) (y0 : Int32) (y1 : Int32) (y2 : Int32) (y3 : Int32) (y4 : Int32) (cs : Int32) (h0 : Heap) (n0 : Nat) (Z0 : n0 ≤ h0.size) (O0 : Old Z n0 h0) (Scs : Sta Z Z.heap "java/lang/String" "COMPACT_STRINGS" "Z" (.int cs)) (hcs : ¬ (cs = (0 : Int32))) (E2 : Exa Z h0 a2 "com/example/kworum/kworum/model/Entry") (F0 : Fld Z h0 a1 "com/example/kworum/kworum/model/Entry" "role" "Ljava/lang/String;" (.ref s0)) (F1 : Fld Z h0 a1 "com/example/kworum/kworum/model/Entry" "type" "Ljava/lang/String;" (.ref s1)) (F2 : Fld Z h0 a1 "com/example/kworum/kworum/model/Entry" "right" "Ljava/lang/String;" (.ref s2)) (F3 : Fld Z h0 a1 "com/example/kworum/kworum/model/Entry" "target" "Ljava/lang/String;" (.ref s3)) (F4 : Fld Z h0 a1 "com/example/kworum/kworum/model/Entry" "template" "Ljava/lang/String;" (.ref s4)) (G0 : Fld Z h0 a2 "com/example/kworum/kworum/model/Entry" "role" "Ljava/lang/String;" (.ref t0)) (G1 : Fld Z h0 a2 "com/example/kworum/kworum/model/Entry" "type" "Ljava/lang/String;" (.ref t1)) (G2 : Fld Z h0 a2 "com/example/kworum/kworum/model/Entry" "right" "Ljava/lang/String;" (.ref t2)) (G3 : Fld Z h0 a2 "com/example/kworum/kworum/model/Entry" "target" "Ljava/lang/String;" (.ref t3)) (G4 : Fld Z h0 a2 "com/example/kworum/kworum/model/Entry" "template" "Ljava/lang/String;" (.ref t4)) (S0 : own_Str Z h0 s0 [x0]) (S1 : own_Str Z h0 s1 [x1]) (S2 : own_Str Z h0 s2 [x2]) (S3 : own_Str Z h0 s3 [x3]) (S4 : own_Str Z h0 s4 [x4]) (U0 : own_Str Z h0 t0 [y0]) (U1 : own_Str Z h0 t1 [y1]) (U2 : own_Str Z h0 t2 [y2]) (U3 : own_Str Z h0 t3 [y3]) (U4 : own_Str Z h0 t4 [y4]) :
    MetFree l (⟨"com/example/kworum/kworum/model/Entry", "equals", "(Ljava/lang/Object;)Z"⟩ : MethodName) (head1 (Jvm.Cond.code (⟨"com/example/kworum/kworum/model/Entry", "equals", "(Ljava/lang/Object;)Z"⟩ : MethodName) prog_46_method_9_code 3 (some .boolean) :: ws) ({ frames := 2, cells := 0, slots := 0, locals := 28 } : Room)) (fun a U => a = #[(.ref a1), (.ref a2)] ∧ Z.Warmed39 U.vm ∧ U.heap = h0) (fun _ _ _ _ _ => True) (fun _ U o U' => ∃ v L, o = .returned v ∧ QeqE Z a1 a2 s0 s1 s2 s3 s4 t0 t1 t2 t3 t4 x0 x1 x2 x3 x4 y0 y1 y2 y3 y4 cs h0 n0 v U'.heap L ∧ FrameEnd U o U' L ({ frames := 2, cells := 0, slots := 0, locals := 28 } : Room).cells ({ frames := 2, cells := 0, slots := 0, locals := 28 } : Room).slots) := by
  refine MetFree.of_bodySF (plainFor_of_name pn_com_example_kworum_kworum_model_Entry) hisR ?_
  intro p e s m args below meth c s₁ Bd hml0 hP hK
  obtain ⟨rfl, hZ, hH0⟩ := hP
  have hx := Bd.exec
  have hby := Bd.bytes
  have hml : c.maxLocals = 3 := hml0
  have hown : s.vm.findClass "com/example/kworum/kworum/model/Entry" = some m.cls := findClass_of_methodNamed Bd.named
  have hnm := (name_of_methodNamed Bd.named Bd.method).1
  have X0 : Stand p l e ({ frames := 2, cells := 0, slots := 0, locals := 28 } : Room) s m #[(.ref a1), (.ref a2)] below meth c s₁ [] 0 0 := Stand.of_body Bd
  have e0 : s₁.heap = h0 := by rw [← hH0, Bd.state]; rfl
  have N0 := Fr.nil n0
  refine own_cast (ef_eqE m a1 a2) ?_
  show own_Go p e below (fun o U' => ∃ v L, o = .returned v ∧ QeqE Z a1 a2 s0 s1 s2 s3 s4 t0 t1 t2 t3 t4 x0 x1 x2 x3 x4 y0 y1 y2 y3 y4 cs h0 n0 v U'.heap L ∧ FrameEnd s o U' L ({ frames := 2, cells := 0, slots := 0, locals := 28 } : Room).cells ({ frames := 2, cells := 0, slots := 0, locals := 28 } : Room).slots) (s₁.setTop (mkF m 0 #[.val (.ref a1), .val (.ref a2), .unset] []))
  refine own_via (fun _ => XS.aloadN X0.here hx rfl (hb hby d12_0) rfl rfl) ?_
  show own_Go p e below _ (s₁.setTop (mkF m 1 #[.val (.ref a1), .val (.ref a2), .unset] [(.ref a2)]))
  obtain ⟨T_1, X_1, e_1, st_1⟩ := instY X0 hx hZ hown (own_w hw 80 rfl) e0 (Ins.self E2) (g := (mkF m 1 #[.val (.ref a1), .val (.ref a2), .unset] [(.ref a2)])) rfl rfl (hb hby d12_1)
  refine own_via st_1 ?_
  show own_Go p e below _ (T_1.setTop (mkF m 4 #[.val (.ref a1), .val (.ref a2), .unset] [(.int (1 : Int32))]))
  refine own_via (fun _ => XS.ifNo X_1.here hx rfl (hb hby d12_4) rfl ((if0 _ _).trans (feq ((by decide) : ¬ ((1 : Int32) = (0 : Int32)))).1)) ?_
  show own_Go p e below _ (T_1.setTop (mkF m 7 #[.val (.ref a1), .val (.ref a2), .unset] []))
  refine own_via (fun _ => XS.aloadN X_1.here hx rfl (hb hby d12_7) rfl rfl) ?_
  show own_Go p e below _ (T_1.setTop (mkF m 8 #[.val (.ref a1), .val (.ref a2), .unset] [(.ref a2)]))
  obtain ⟨T_2, X_2, e_2, st_2⟩ := castY X_1 hx hZ hown (own_w hw 80 rfl) e_1 (Ins.self E2) (g := (mkF m 8 #[.val (.ref a1), .val (.ref a2), .unset] [(.ref a2)])) rfl rfl (hb hby d12_8)
  refine own_via st_2 ?_
  show own_Go p e below _ (T_2.setTop (mkF m 11 #[.val (.ref a1), .val (.ref a2), .unset] [(.ref a2)]))
  refine own_via (fun _ => XS.astoreN X_2.here hx rfl (hb hby d12_11) rfl rfl (l' := #[.val (.ref a1), .val (.ref a2), .val (.ref a2)]) rfl) ?_
  show own_Go p e below _ (T_2.setTop (mkF m 12 #[.val (.ref a1), .val (.ref a2), .val (.ref a2)] []))
  refine own_via (fun _ => XS.aloadN X_2.here hx rfl (hb hby d12_12) rfl rfl) ?_
  show own_Go p e below _ (T_2.setTop (mkF m 13 #[.val (.ref a1), .val (.ref a2), .val (.ref a2)] [(.ref a1)]))
  obtain ⟨T_3, X_3, e_3, st_3⟩ := getF X_2 hx hZ hown (host := "") (Or.inl (own_w hw 45 rfl)) Via.refl e_2 F0 (g := (mkF m 13 #[.val (.ref a1), .val (.ref a2), .val (.ref a2)] [(.ref a1)])) rfl rfl (hb hby d12_13)
  refine own_via st_3 ?_
  show own_Go p e below _ (T_3.setTop (mkF m 16 #[.val (.ref a1), .val (.ref a2), .val (.ref a2)] [(.ref s0)]))
  refine own_via (fun _ => XS.aloadN X_3.here hx rfl (hb hby d12_16) rfl rfl) ?_
  show own_Go p e below _ (T_3.setTop (mkF m 17 #[.val (.ref a1), .val (.ref a2), .val (.ref a2)] [(.ref a2), (.ref s0)]))
  obtain ⟨T_4, X_4, e_4, st_4⟩ := getF X_3 hx hZ hown (host := "") (Or.inl (own_w hw 45 rfl)) Via.refl e_3 G0 (g := (mkF m 17 #[.val (.ref a1), .val (.ref a2), .val (.ref a2)] [(.ref a2), (.ref s0)])) rfl rfl (hb hby d12_17)
  refine own_via st_4 ?_
  show own_Go p e below _ (T_4.setTop (mkF m 20 #[.val (.ref a1), .val (.ref a2), .val (.ref a2)] [(.ref t0), (.ref s0)]))
  obtain ⟨E_5a, C_5a, ⟨t_5a, k_5a, V_5a, K_5a⟩, p_5a, l_5a⟩ := S0
  obtain ⟨E_5b, C_5b, ⟨t_5b, k_5b, V_5b, K_5b⟩, p_5b, l_5b⟩ := U0
  obtain ⟨cq_6, kq_6, q_6a, q_6b, q_6c⟩ := isOf hZ e_4 E_5a
  obtain ⟨_, _, ⟨T_6, L_6, k_6, n_6⟩, -, X_6, ⟨Lc_6, hQ_6, l_6, y_6, z_6⟩, st_6⟩ := X_4.virtualBack hx (y := (⟨"java/lang/String", "equals", "(Ljava/lang/Object;)Z"⟩ : MethodName)) (z := (⟨"java/lang/String", "equals", "(Ljava/lang/Object;)Z"⟩ : MethodName)) hown (mvT hZ (own_w hw 84 rfl)) (mvT hZ (own_w hw 85 rfl)) (notFace_of_selects (args := #[]) (mvT hZ (own_w hw 87 rfl))) (mvT hZ (own_w hw 87 rfl)) (mvT hZ (own_w hw 86 rfl)) (by decide) (StrChars.Road.eqW (W := 0) hZ (own_hwordsEq hw) (kI := 4) (own_w hw 13 rfl) E_5a V_5a C_5a K_5a (StrChars.Road.codOf rfl (fun c hc => (p_5a c hc).2)) (own_up p_5a) l_5a E_5b V_5b C_5b K_5b (StrChars.Road.codOf rfl (fun c hc => (p_5b c hc).2)) (own_up p_5b) l_5b (Scs.ext O0.2) hcs (by decide) (by decide)) q_6a q_6c (g := (mkF m 20 #[.val (.ref a1), .val (.ref a2), .val (.ref a2)] [(.ref t0), (.ref s0)])) rfl (by rw [hml]; rfl) (Steps.refl _) (argsL := [(.ref t0)]) (rest := []) (lenOf pd_3 rfl) rfl (by show 2 * 0 + _ ≤ _; exact Nat.le_of_eq rfl) (hb hby d12_20) (fun _ _ => ⟨rfl, e_4, (by decide : 0 + 0 ≤ _), (by decide : 0 + 0 ≤ _)⟩)
  dsimp only [Pt.U, Pt.locs, Pt.cells, Pt.slots] at X_6 l_6 y_6 z_6 st_6 hQ_6
  subst l_6 y_6 z_6
  obtain ⟨hv_6, rfl, e_6⟩ := hQ_6
  have N_6 := Fr.app N0 (Fr.nil n0)
  rcases hv_6 with ⟨rfl, hq_6⟩ | ⟨rfl, hq_6⟩
  · refine own_via (fun _ k => st_6.trans k) ?_
    show own_Go p e below _ (T_6.setTop (mkF m 23 #[.val (.ref a1), .val (.ref a2), .val (.ref a2)] [(.int (1 : Int32))]))
    refine own_via (fun _ => XS.ifNo X_6.here hx rfl (hb hby d12_23) rfl ((if0 _ _).trans (feq ((by decide) : ¬ ((1 : Int32) = (0 : Int32)))).1)) ?_
    show own_Go p e below _ (T_6.setTop (mkF m 26 #[.val (.ref a1), .val (.ref a2), .val (.ref a2)] []))
    refine own_via (fun _ => XS.aloadN X_6.here hx rfl (hb hby d12_26) rfl rfl) ?_
    show own_Go p e below _ (T_6.setTop (mkF m 27 #[.val (.ref a1), .val (.ref a2), .val (.ref a2)] [(.ref a1)]))
    obtain ⟨T_7, X_7, e_7, st_7⟩ := getF X_6 hx hZ hown (host := "") (Or.inl (own_w hw 47 rfl)) Via.refl e_6 F1 (g := (mkF m 27 #[.val (.ref a1), .val (.ref a2), .val (.ref a2)] [(.ref a1)])) rfl rfl (hb hby d12_27)
    refine own_via st_7 ?_
    show own_Go p e below _ (T_7.setTop (mkF m 30 #[.val (.ref a1), .val (.ref a2), .val (.ref a2)] [(.ref s1)]))
    refine own_via (fun _ => XS.aloadN X_7.here hx rfl (hb hby d12_30) rfl rfl) ?_
    show own_Go p e below _ (T_7.setTop (mkF m 31 #[.val (.ref a1), .val (.ref a2), .val (.ref a2)] [(.ref a2), (.ref s1)]))
    obtain ⟨T_8, X_8, e_8, st_8⟩ := getF X_7 hx hZ hown (host := "") (Or.inl (own_w hw 47 rfl)) Via.refl e_7 G1 (g := (mkF m 31 #[.val (.ref a1), .val (.ref a2), .val (.ref a2)] [(.ref a2), (.ref s1)])) rfl rfl (hb hby d12_31)
    refine own_via st_8 ?_
    show own_Go p e below _ (T_8.setTop (mkF m 34 #[.val (.ref a1), .val (.ref a2), .val (.ref a2)] [(.ref t1), (.ref s1)]))
    obtain ⟨E_9a, C_9a, ⟨t_9a, k_9a, V_9a, K_9a⟩, p_9a, l_9a⟩ := S1
    obtain ⟨E_9b, C_9b, ⟨t_9b, k_9b, V_9b, K_9b⟩, p_9b, l_9b⟩ := U1
    obtain ⟨cq_10, kq_10, q_10a, q_10b, q_10c⟩ := isOf hZ e_8 E_9a
    obtain ⟨_, _, ⟨T_10, L_10, k_10, n_10⟩, -, X_10, ⟨Lc_10, hQ_10, l_10, y_10, z_10⟩, st_10⟩ := X_8.virtualBack hx (y := (⟨"java/lang/String", "equals", "(Ljava/lang/Object;)Z"⟩ : MethodName)) (z := (⟨"java/lang/String", "equals", "(Ljava/lang/Object;)Z"⟩ : MethodName)) hown (mvT hZ (own_w hw 84 rfl)) (mvT hZ (own_w hw 85 rfl)) (notFace_of_selects (args := #[]) (mvT hZ (own_w hw 87 rfl))) (mvT hZ (own_w hw 87 rfl)) (mvT hZ (own_w hw 86 rfl)) (by decide) (StrChars.Road.eqW (W := 0) hZ (own_hwordsEq hw) (kI := 4) (own_w hw 13 rfl) E_9a V_9a C_9a K_9a (StrChars.Road.codOf rfl (fun c hc => (p_9a c hc).2)) (own_up p_9a) l_9a E_9b V_9b C_9b K_9b (StrChars.Road.codOf rfl (fun c hc => (p_9b c hc).2)) (own_up p_9b) l_9b (Scs.ext O0.2) hcs (by decide) (by decide)) q_10a q_10c (g := (mkF m 34 #[.val (.ref a1), .val (.ref a2), .val (.ref a2)] [(.ref t1), (.ref s1)])) rfl (by rw [hml]; rfl) (Steps.refl _) (argsL := [(.ref t1)]) (rest := []) (lenOf pd_3 rfl) rfl (by show 2 * 0 + _ ≤ _; exact Nat.le_of_eq rfl) (hb hby d12_34) (fun _ _ => ⟨rfl, e_8, (by decide : 0 + 0 ≤ _), (by decide : 0 + 0 ≤ _)⟩)
    dsimp only [Pt.U, Pt.locs, Pt.cells, Pt.slots] at X_10 l_10 y_10 z_10 st_10 hQ_10
    subst l_10 y_10 z_10
    obtain ⟨hv_10, rfl, e_10⟩ := hQ_10
    have N_10 := Fr.app N_6 (Fr.nil n0)
    rcases hv_10 with ⟨rfl, hq_10⟩ | ⟨rfl, hq_10⟩
    · refine own_via (fun _ k => st_10.trans k) ?_
      show own_Go p e below _ (T_10.setTop (mkF m 37 #[.val (.ref a1), .val (.ref a2), .val (.ref a2)] [(.int (1 : Int32))]))
      refine own_via (fun _ => XS.ifNo X_10.here hx rfl (hb hby d12_37) rfl ((if0 _ _).trans (feq ((by decide) : ¬ ((1 : Int32) = (0 : Int32)))).1)) ?_
      show own_Go p e below _ (T_10.setTop (mkF m 40 #[.val (.ref a1), .val (.ref a2), .val (.ref a2)] []))
      refine own_via (fun _ => XS.aloadN X_10.here hx rfl (hb hby d12_40) rfl rfl) ?_
      show own_Go p e below _ (T_10.setTop (mkF m 41 #[.val (.ref a1), .val (.ref a2), .val (.ref a2)] [(.ref a1)]))
      obtain ⟨T_11, X_11, e_11, st_11⟩ := getF X_10 hx hZ hown (host := "") (Or.inl (own_w hw 49 rfl)) Via.refl e_10 F2 (g := (mkF m 41 #[.val (.ref a1), .val (.ref a2), .val (.ref a2)] [(.ref a1)])) rfl rfl (hb hby d12_41)
      refine own_via st_11 ?_
      show own_Go p e below _ (T_11.setTop (mkF m 44 #[.val (.ref a1), .val (.ref a2), .val (.ref a2)] [(.ref s2)]))
      refine own_via (fun _ => XS.aloadN X_11.here hx rfl (hb hby d12_44) rfl rfl) ?_
      show own_Go p e below _ (T_11.setTop (mkF m 45 #[.val (.ref a1), .val (.ref a2), .val (.ref a2)] [(.ref a2), (.ref s2)]))
      obtain ⟨T_12, X_12, e_12, st_12⟩ := getF X_11 hx hZ hown (host := "") (Or.inl (own_w hw 49 rfl)) Via.refl e_11 G2 (g := (mkF m 45 #[.val (.ref a1), .val (.ref a2), .val (.ref a2)] [(.ref a2), (.ref s2)])) rfl rfl (hb hby d12_45)
      refine own_via st_12 ?_
      show own_Go p e below _ (T_12.setTop (mkF m 48 #[.val (.ref a1), .val (.ref a2), .val (.ref a2)] [(.ref t2), (.ref s2)]))
      obtain ⟨E_13a, C_13a, ⟨t_13a, k_13a, V_13a, K_13a⟩, p_13a, l_13a⟩ := S2
      obtain ⟨E_13b, C_13b, ⟨t_13b, k_13b, V_13b, K_13b⟩, p_13b, l_13b⟩ := U2
      obtain ⟨cq_14, kq_14, q_14a, q_14b, q_14c⟩ := isOf hZ e_12 E_13a
      obtain ⟨_, _, ⟨T_14, L_14, k_14, n_14⟩, -, X_14, ⟨Lc_14, hQ_14, l_14, y_14, z_14⟩, st_14⟩ := X_12.virtualBack hx (y := (⟨"java/lang/String", "equals", "(Ljava/lang/Object;)Z"⟩ : MethodName)) (z := (⟨"java/lang/String", "equals", "(Ljava/lang/Object;)Z"⟩ : MethodName)) hown (mvT hZ (own_w hw 84 rfl)) (mvT hZ (own_w hw 85 rfl)) (notFace_of_selects (args := #[]) (mvT hZ (own_w hw 87 rfl))) (mvT hZ (own_w hw 87 rfl)) (mvT hZ (own_w hw 86 rfl)) (by decide) (StrChars.Road.eqW (W := 0) hZ (own_hwordsEq hw) (kI := 4) (own_w hw 13 rfl) E_13a V_13a C_13a K_13a (StrChars.Road.codOf rfl (fun c hc => (p_13a c hc).2)) (own_up p_13a) l_13a E_13b V_13b C_13b K_13b (StrChars.Road.codOf rfl (fun c hc => (p_13b c hc).2)) (own_up p_13b) l_13b (Scs.ext O0.2) hcs (by decide) (by decide)) q_14a q_14c (g := (mkF m 48 #[.val (.ref a1), .val (.ref a2), .val (.ref a2)] [(.ref t2), (.ref s2)])) rfl (by rw [hml]; rfl) (Steps.refl _) (argsL := [(.ref t2)]) (rest := []) (lenOf pd_3 rfl) rfl (by show 2 * 0 + _ ≤ _; exact Nat.le_of_eq rfl) (hb hby d12_48) (fun _ _ => ⟨rfl, e_12, (by decide : 0 + 0 ≤ _), (by decide : 0 + 0 ≤ _)⟩)
      dsimp only [Pt.U, Pt.locs, Pt.cells, Pt.slots] at X_14 l_14 y_14 z_14 st_14 hQ_14
      subst l_14 y_14 z_14
      obtain ⟨hv_14, rfl, e_14⟩ := hQ_14
      have N_14 := Fr.app N_10 (Fr.nil n0)
      rcases hv_14 with ⟨rfl, hq_14⟩ | ⟨rfl, hq_14⟩
      · refine own_via (fun _ k => st_14.trans k) ?_
        show own_Go p e below _ (T_14.setTop (mkF m 51 #[.val (.ref a1), .val (.ref a2), .val (.ref a2)] [(.int (1 : Int32))]))
        refine own_via (fun _ => XS.ifNo X_14.here hx rfl (hb hby d12_51) rfl ((if0 _ _).trans (feq ((by decide) : ¬ ((1 : Int32) = (0 : Int32)))).1)) ?_
        show own_Go p e below _ (T_14.setTop (mkF m 54 #[.val (.ref a1), .val (.ref a2), .val (.ref a2)] []))
        refine own_via (fun _ => XS.aloadN X_14.here hx rfl (hb hby d12_54) rfl rfl) ?_
        show own_Go p e below _ (T_14.setTop (mkF m 55 #[.val (.ref a1), .val (.ref a2), .val (.ref a2)] [(.ref a1)]))
        obtain ⟨T_15, X_15, e_15, st_15⟩ := getF X_14 hx hZ hown (host := "") (Or.inl (own_w hw 51 rfl)) Via.refl e_14 F3 (g := (mkF m 55 #[.val (.ref a1), .val (.ref a2), .val (.ref a2)] [(.ref a1)])) rfl rfl (hb hby d12_55)
        refine own_via st_15 ?_
        show own_Go p e below _ (T_15.setTop (mkF m 58 #[.val (.ref a1), .val (.ref a2), .val (.ref a2)] [(.ref s3)]))
        refine own_via (fun _ => XS.aloadN X_15.here hx rfl (hb hby d12_58) rfl rfl) ?_
        show own_Go p e below _ (T_15.setTop (mkF m 59 #[.val (.ref a1), .val (.ref a2), .val (.ref a2)] [(.ref a2), (.ref s3)]))
        obtain ⟨T_16, X_16, e_16, st_16⟩ := getF X_15 hx hZ hown (host := "") (Or.inl (own_w hw 51 rfl)) Via.refl e_15 G3 (g := (mkF m 59 #[.val (.ref a1), .val (.ref a2), .val (.ref a2)] [(.ref a2), (.ref s3)])) rfl rfl (hb hby d12_59)
        refine own_via st_16 ?_
        show own_Go p e below _ (T_16.setTop (mkF m 62 #[.val (.ref a1), .val (.ref a2), .val (.ref a2)] [(.ref t3), (.ref s3)]))
        obtain ⟨E_17a, C_17a, ⟨t_17a, k_17a, V_17a, K_17a⟩, p_17a, l_17a⟩ := S3
        obtain ⟨E_17b, C_17b, ⟨t_17b, k_17b, V_17b, K_17b⟩, p_17b, l_17b⟩ := U3
        obtain ⟨cq_18, kq_18, q_18a, q_18b, q_18c⟩ := isOf hZ e_16 E_17a
        obtain ⟨_, _, ⟨T_18, L_18, k_18, n_18⟩, -, X_18, ⟨Lc_18, hQ_18, l_18, y_18, z_18⟩, st_18⟩ := X_16.virtualBack hx (y := (⟨"java/lang/String", "equals", "(Ljava/lang/Object;)Z"⟩ : MethodName)) (z := (⟨"java/lang/String", "equals", "(Ljava/lang/Object;)Z"⟩ : MethodName)) hown (mvT hZ (own_w hw 84 rfl)) (mvT hZ (own_w hw 85 rfl)) (notFace_of_selects (args := #[]) (mvT hZ (own_w hw 87 rfl))) (mvT hZ (own_w hw 87 rfl)) (mvT hZ (own_w hw 86 rfl)) (by decide) (StrChars.Road.eqW (W := 0) hZ (own_hwordsEq hw) (kI := 4) (own_w hw 13 rfl) E_17a V_17a C_17a K_17a (StrChars.Road.codOf rfl (fun c hc => (p_17a c hc).2)) (own_up p_17a) l_17a E_17b V_17b C_17b K_17b (StrChars.Road.codOf rfl (fun c hc => (p_17b c hc).2)) (own_up p_17b) l_17b (Scs.ext O0.2) hcs (by decide) (by decide)) q_18a q_18c (g := (mkF m 62 #[.val (.ref a1), .val (.ref a2), .val (.ref a2)] [(.ref t3), (.ref s3)])) rfl (by rw [hml]; rfl) (Steps.refl _) (argsL := [(.ref t3)]) (rest := []) (lenOf pd_3 rfl) rfl (by show 2 * 0 + _ ≤ _; exact Nat.le_of_eq rfl) (hb hby d12_62) (fun _ _ => ⟨rfl, e_16, (by decide : 0 + 0 ≤ _), (by decide : 0 + 0 ≤ _)⟩)
        dsimp only [Pt.U, Pt.locs, Pt.cells, Pt.slots] at X_18 l_18 y_18 z_18 st_18 hQ_18
        subst l_18 y_18 z_18
        obtain ⟨hv_18, rfl, e_18⟩ := hQ_18
        have N_18 := Fr.app N_14 (Fr.nil n0)
        rcases hv_18 with ⟨rfl, hq_18⟩ | ⟨rfl, hq_18⟩
        · refine own_via (fun _ k => st_18.trans k) ?_
          show own_Go p e below _ (T_18.setTop (mkF m 65 #[.val (.ref a1), .val (.ref a2), .val (.ref a2)] [(.int (1 : Int32))]))
          refine own_via (fun _ => XS.ifNo X_18.here hx rfl (hb hby d12_65) rfl ((if0 _ _).trans (feq ((by decide) : ¬ ((1 : Int32) = (0 : Int32)))).1)) ?_
          show own_Go p e below _ (T_18.setTop (mkF m 68 #[.val (.ref a1), .val (.ref a2), .val (.ref a2)] []))
          refine own_via (fun _ => XS.aloadN X_18.here hx rfl (hb hby d12_68) rfl rfl) ?_
          show own_Go p e below _ (T_18.setTop (mkF m 69 #[.val (.ref a1), .val (.ref a2), .val (.ref a2)] [(.ref a1)]))
          obtain ⟨T_19, X_19, e_19, st_19⟩ := getF X_18 hx hZ hown (host := "") (Or.inl (own_w hw 53 rfl)) Via.refl e_18 F4 (g := (mkF m 69 #[.val (.ref a1), .val (.ref a2), .val (.ref a2)] [(.ref a1)])) rfl rfl (hb hby d12_69)
          refine own_via st_19 ?_
          show own_Go p e below _ (T_19.setTop (mkF m 72 #[.val (.ref a1), .val (.ref a2), .val (.ref a2)] [(.ref s4)]))
          refine own_via (fun _ => XS.aloadN X_19.here hx rfl (hb hby d12_72) rfl rfl) ?_
          show own_Go p e below _ (T_19.setTop (mkF m 73 #[.val (.ref a1), .val (.ref a2), .val (.ref a2)] [(.ref a2), (.ref s4)]))
          obtain ⟨T_20, X_20, e_20, st_20⟩ := getF X_19 hx hZ hown (host := "") (Or.inl (own_w hw 53 rfl)) Via.refl e_19 G4 (g := (mkF m 73 #[.val (.ref a1), .val (.ref a2), .val (.ref a2)] [(.ref a2), (.ref s4)])) rfl rfl (hb hby d12_73)
          refine own_via st_20 ?_
          show own_Go p e below _ (T_20.setTop (mkF m 76 #[.val (.ref a1), .val (.ref a2), .val (.ref a2)] [(.ref t4), (.ref s4)]))
          obtain ⟨E_21a, C_21a, ⟨t_21a, k_21a, V_21a, K_21a⟩, p_21a, l_21a⟩ := S4
          obtain ⟨E_21b, C_21b, ⟨t_21b, k_21b, V_21b, K_21b⟩, p_21b, l_21b⟩ := U4
          obtain ⟨cq_22, kq_22, q_22a, q_22b, q_22c⟩ := isOf hZ e_20 E_21a
          obtain ⟨_, _, ⟨T_22, L_22, k_22, n_22⟩, -, X_22, ⟨Lc_22, hQ_22, l_22, y_22, z_22⟩, st_22⟩ := X_20.virtualBack hx (y := (⟨"java/lang/String", "equals", "(Ljava/lang/Object;)Z"⟩ : MethodName)) (z := (⟨"java/lang/String", "equals", "(Ljava/lang/Object;)Z"⟩ : MethodName)) hown (mvT hZ (own_w hw 84 rfl)) (mvT hZ (own_w hw 85 rfl)) (notFace_of_selects (args := #[]) (mvT hZ (own_w hw 87 rfl))) (mvT hZ (own_w hw 87 rfl)) (mvT hZ (own_w hw 86 rfl)) (by decide) (StrChars.Road.eqW (W := 0) hZ (own_hwordsEq hw) (kI := 4) (own_w hw 13 rfl) E_21a V_21a C_21a K_21a (StrChars.Road.codOf rfl (fun c hc => (p_21a c hc).2)) (own_up p_21a) l_21a E_21b V_21b C_21b K_21b (StrChars.Road.codOf rfl (fun c hc => (p_21b c hc).2)) (own_up p_21b) l_21b (Scs.ext O0.2) hcs (by decide) (by decide)) q_22a q_22c (g := (mkF m 76 #[.val (.ref a1), .val (.ref a2), .val (.ref a2)] [(.ref t4), (.ref s4)])) rfl (by rw [hml]; rfl) (Steps.refl _) (argsL := [(.ref t4)]) (rest := []) (lenOf pd_3 rfl) rfl (by show 2 * 0 + _ ≤ _; exact Nat.le_of_eq rfl) (hb hby d12_76) (fun _ _ => ⟨rfl, e_20, (by decide : 0 + 0 ≤ _), (by decide : 0 + 0 ≤ _)⟩)
          dsimp only [Pt.U, Pt.locs, Pt.cells, Pt.slots] at X_22 l_22 y_22 z_22 st_22 hQ_22
          subst l_22 y_22 z_22
          obtain ⟨hv_22, rfl, e_22⟩ := hQ_22
          have N_22 := Fr.app N_18 (Fr.nil n0)
          rcases hv_22 with ⟨rfl, hq_22⟩ | ⟨rfl, hq_22⟩
          · refine own_via (fun _ k => st_22.trans k) ?_
            show own_Go p e below _ (T_22.setTop (mkF m 79 #[.val (.ref a1), .val (.ref a2), .val (.ref a2)] [(.int (1 : Int32))]))
            refine own_via (fun _ => XS.ifNo X_22.here hx rfl (hb hby d12_79) rfl ((if0 _ _).trans (feq ((by decide) : ¬ ((1 : Int32) = (0 : Int32)))).1)) ?_
            show own_Go p e below _ (T_22.setTop (mkF m 82 #[.val (.ref a1), .val (.ref a2), .val (.ref a2)] []))
            refine own_via (fun _ => XS.iconst X_22.here hx rfl (hb hby d12_82)) ?_
            show own_Go p e below _ (T_22.setTop (mkF m 83 #[.val (.ref a1), .val (.ref a2), .val (.ref a2)] [(.int (1 : Int32))]))
            refine own_via (fun _ => XS.goto X_22.here hx rfl (pc0 := 83) (pc' := 87) rfl (hb hby d12_83) (by decide) (by decide)) ?_
            show own_Go p e below _ (T_22.setTop (mkF m 87 #[.val (.ref a1), .val (.ref a2), .val (.ref a2)] [(.int (1 : Int32))]))
            exact own_retv X_22 Bd.notSynchronized hx Bd.returns rfl (Or.inl ⟨rfl, (by simp), _, rfl⟩) (hb hby d12_87) (by decide) (by decide) (by rw [e_22]; exact ⟨(1 : Int32), rfl, N_22, rfl, (by simp_all)⟩)
          · refine own_via (fun _ k => st_22.trans k) ?_
            show own_Go p e below _ (T_22.setTop (mkF m 79 #[.val (.ref a1), .val (.ref a2), .val (.ref a2)] [(.int (0 : Int32))]))
            refine own_via (fun _ => XS.ifYes X_22.here hx rfl (pc0 := 79) (pc' := 86) rfl (hb hby d12_79) rfl ((if0 _ _).trans (teq ((by decide) : (0 : Int32) = (0 : Int32))).1) (by decide) (by decide)) ?_
            show own_Go p e below _ (T_22.setTop (mkF m 86 #[.val (.ref a1), .val (.ref a2), .val (.ref a2)] []))
            refine own_via (fun _ => XS.iconst X_22.here hx rfl (hb hby d12_86)) ?_
            show own_Go p e below _ (T_22.setTop (mkF m 87 #[.val (.ref a1), .val (.ref a2), .val (.ref a2)] [(.int (0 : Int32))]))
            exact own_retv X_22 Bd.notSynchronized hx Bd.returns rfl (Or.inl ⟨rfl, (by simp), _, rfl⟩) (hb hby d12_87) (by decide) (by decide) (by rw [e_22]; exact ⟨(0 : Int32), rfl, N_22, rfl, (by simp_all)⟩)
        · refine own_via (fun _ k => st_18.trans k) ?_
          show own_Go p e below _ (T_18.setTop (mkF m 65 #[.val (.ref a1), .val (.ref a2), .val (.ref a2)] [(.int (0 : Int32))]))
          refine own_via (fun _ => XS.ifYes X_18.here hx rfl (pc0 := 65) (pc' := 86) rfl (hb hby d12_65) rfl ((if0 _ _).trans (teq ((by decide) : (0 : Int32) = (0 : Int32))).1) (by decide) (by decide)) ?_
          show own_Go p e below _ (T_18.setTop (mkF m 86 #[.val (.ref a1), .val (.ref a2), .val (.ref a2)] []))
          refine own_via (fun _ => XS.iconst X_18.here hx rfl (hb hby d12_86)) ?_
          show own_Go p e below _ (T_18.setTop (mkF m 87 #[.val (.ref a1), .val (.ref a2), .val (.ref a2)] [(.int (0 : Int32))]))
          exact own_retv X_18 Bd.notSynchronized hx Bd.returns rfl (Or.inl ⟨rfl, (by simp), _, rfl⟩) (hb hby d12_87) (by decide) (by decide) (by rw [e_18]; exact ⟨(0 : Int32), rfl, N_18, rfl, (by simp_all)⟩)
      · refine own_via (fun _ k => st_14.trans k) ?_
        show own_Go p e below _ (T_14.setTop (mkF m 51 #[.val (.ref a1), .val (.ref a2), .val (.ref a2)] [(.int (0 : Int32))]))
        refine own_via (fun _ => XS.ifYes X_14.here hx rfl (pc0 := 51) (pc' := 86) rfl (hb hby d12_51) rfl ((if0 _ _).trans (teq ((by decide) : (0 : Int32) = (0 : Int32))).1) (by decide) (by decide)) ?_
        show own_Go p e below _ (T_14.setTop (mkF m 86 #[.val (.ref a1), .val (.ref a2), .val (.ref a2)] []))
        refine own_via (fun _ => XS.iconst X_14.here hx rfl (hb hby d12_86)) ?_
        show own_Go p e below _ (T_14.setTop (mkF m 87 #[.val (.ref a1), .val (.ref a2), .val (.ref a2)] [(.int (0 : Int32))]))
        exact own_retv X_14 Bd.notSynchronized hx Bd.returns rfl (Or.inl ⟨rfl, (by simp), _, rfl⟩) (hb hby d12_87) (by decide) (by decide) (by rw [e_14]; exact ⟨(0 : Int32), rfl, N_14, rfl, (by simp_all)⟩)
    · refine own_via (fun _ k => st_10.trans k) ?_
      show own_Go p e below _ (T_10.setTop (mkF m 37 #[.val (.ref a1), .val (.ref a2), .val (.ref a2)] [(.int (0 : Int32))]))
      refine own_via (fun _ => XS.ifYes X_10.here hx rfl (pc0 := 37) (pc' := 86) rfl (hb hby d12_37) rfl ((if0 _ _).trans (teq ((by decide) : (0 : Int32) = (0 : Int32))).1) (by decide) (by decide)) ?_
      show own_Go p e below _ (T_10.setTop (mkF m 86 #[.val (.ref a1), .val (.ref a2), .val (.ref a2)] []))
      refine own_via (fun _ => XS.iconst X_10.here hx rfl (hb hby d12_86)) ?_
      show own_Go p e below _ (T_10.setTop (mkF m 87 #[.val (.ref a1), .val (.ref a2), .val (.ref a2)] [(.int (0 : Int32))]))
      exact own_retv X_10 Bd.notSynchronized hx Bd.returns rfl (Or.inl ⟨rfl, (by simp), _, rfl⟩) (hb hby d12_87) (by decide) (by decide) (by rw [e_10]; exact ⟨(0 : Int32), rfl, N_10, rfl, (by simp_all)⟩)
  · refine own_via (fun _ k => st_6.trans k) ?_
    show own_Go p e below _ (T_6.setTop (mkF m 23 #[.val (.ref a1), .val (.ref a2), .val (.ref a2)] [(.int (0 : Int32))]))
    refine own_via (fun _ => XS.ifYes X_6.here hx rfl (pc0 := 23) (pc' := 86) rfl (hb hby d12_23) rfl ((if0 _ _).trans (teq ((by decide) : (0 : Int32) = (0 : Int32))).1) (by decide) (by decide)) ?_
    show own_Go p e below _ (T_6.setTop (mkF m 86 #[.val (.ref a1), .val (.ref a2), .val (.ref a2)] []))
    refine own_via (fun _ => XS.iconst X_6.here hx rfl (hb hby d12_86)) ?_
    show own_Go p e below _ (T_6.setTop (mkF m 87 #[.val (.ref a1), .val (.ref a2), .val (.ref a2)] [(.int (0 : Int32))]))
    exact own_retv X_6 Bd.notSynchronized hx Bd.returns rfl (Or.inl ⟨rfl, (by simp), _, rfl⟩) (hb hby d12_87) (by decide) (by decide) (by rw [e_6]; exact ⟨(0 : Int32), rfl, N_6, rfl, (by simp_all)⟩)
theorem own_fin {c0 c1 c2 c3 c4 d0 d1 d2 d3 d4 z zz : Int32} (e : z = if c0 = d0 then (if c1 = d1 then (if c2 = d2 then (if c3 = d3 then (if c4 = d4 then 1 else 0) else 0) else 0) else 0) else 0) (e2 : zz = if c0 = d0 ∧ c1 = d1 ∧ c2 = d2 ∧ c3 = d3 ∧ c4 = d4 then 1 else 0) : zz = z := by
  subst e e2
  by_cases h0 : c0 = d0 <;> by_cases h1 : c1 = d1 <;> by_cases h2 : c2 = d2 <;> by_cases h3 : c3 = d3 <;> by_cases h4 : c4 = d4 <;> simp [h0, h1, h2, h3, h4]
theorem own_fin' {c0 c1 c2 c3 c4 d0 d1 d2 d3 d4 z zz : Int32} (e : z = if c0 = d0 then (if c1 = d1 then (if c2 = d2 then (if c3 = d3 then (if c4 = d4 then 1 else 0) else 0) else 0) else 0) else 0) (e2 : zz = if d0 = c0 ∧ d1 = c1 ∧ d2 = c2 ∧ d3 = c3 ∧ d4 = c4 then 1 else 0) : zz = z :=
  own_fin e (by rw [e2]; simp only [eq_comm])

theorem pd_4 : parseMethodDescriptor "(JI)C" = some ⟨[.long, .int], some .char⟩ := by decide +kernel
theorem pd_5 : parseMethodDescriptor "(C)Ljava/lang/String;" = some ⟨[.char], some (.object "java/lang/String")⟩ := by decide +kernel
theorem pd_6 : parseMethodDescriptor "(Ljava/lang/String;Ljava/lang/String;Ljava/lang/String;Ljava/lang/String;Ljava/lang/String;)V" = some ⟨[(.object "java/lang/String"), (.object "java/lang/String"), (.object "java/lang/String"), (.object "java/lang/String"), (.object "java/lang/String")], none⟩ := by decide +kernel
theorem pd_7 : parseMethodDescriptor "(Ljava/lang/String;Ljava/lang/String;Ljava/lang/String;Ljava/lang/String;)V" = some ⟨[(.object "java/lang/String"), (.object "java/lang/String"), (.object "java/lang/String"), (.object "java/lang/String")], none⟩ := by decide +kernel
theorem ef_0 (m : MethodId) (q1 : Int64) (q2 : Int64) (p3 : Int32) (p4 : Int32) : entryFrame m #[(.long q1), (.long q2), (.int p3), (.int p4)] maxLocals = mkF m 0 #[.val (.long q1), .second, .val (.long q2), .second, .val (.int p3), .val (.int p4), .unset, .unset, .unset, .unset, .unset, .unset, .unset, .unset, .unset, .unset, .unset, .unset, .unset, .unset] [] := by first | (simp [entryFrame, mkF, argsToLocals, Value.category, maxLocals]; done) | rfl
def Q0 (Z : State) (q1 : Int64) (q2 : Int64) (p3 : Int32) (p4 : Int32) (cs : Int32) (h0 : Heap) (n0 : Nat) (v : Option Value) (h : Heap) (L : List Loc) : Prop := v = some (.int (1 : Int32)) ∧ Fr n0 L ∧ Keep h0 h []
set_option maxRecDepth 65536 in
set_option maxHeartbeats 40000000 in
theorem rm0 (l : Launch) (Z : State) (a0 : Array Value) (hw : ∀ d ∈ tables_1, d.before a0 Z = true) (ws : List Jvm.Cond) (q1 : Int64) (q2 : Int64) (p3 : Int32) (p4 : Int32) (cs : Int32) (h0 : Heap) (n0 : Nat) (Z0 : n0 ≤ h0.size) (O0 : Old Z n0 h0) (Scs : Sta Z Z.heap "java/lang/String" "COMPACT_STRINGS" "Z" (.int cs)) (hcs : ¬ (cs = (0 : Int32))) :
    MetFree l x (head1 (Jvm.Cond.code x code maxLocals ret :: ws) room_1) (fun a U => a = #[(.long q1), (.long q2), (.int p3), (.int p4)] ∧ Z.Warmed39 U.vm ∧ U.heap = h0) (fun _ _ _ _ _ => True) (fun _ U o U' => ∃ v L, o = .returned v ∧ Q0 Z q1 q2 p3 p4 cs h0 n0 v U'.heap L ∧ FrameEnd U o U' L room_1.cells room_1.slots) := by
  refine MetFree.of_bodySF (plainFor_of_name pn_com_example_kworum_kworum_model_EntryEqualsPinLaw) hisR ?_
  intro p e s m args below meth c s₁ Bd hml0 hP hK
  obtain ⟨rfl, hZ, hH0⟩ := hP
  have hx := Bd.exec
  have hby := Bd.bytes
  have hml : c.maxLocals = 20 := hml0
  have hown : s.vm.findClass "com/example/kworum/kworum/model/EntryEqualsPinLaw" = some m.cls := findClass_of_methodNamed Bd.named
  have hnm := (name_of_methodNamed Bd.named Bd.method).1
  have X0 : Stand p l e room_1 s m #[(.long q1), (.long q2), (.int p3), (.int p4)] below meth c s₁ [] 0 0 := Stand.of_body Bd
  have e0 : s₁.heap = h0 := by rw [← hH0, Bd.state]; rfl
  have N0 := Fr.nil n0
  refine own_cast (ef_0 m q1 q2 p3 p4) ?_
  show own_Go p e below (fun o U' => ∃ v L, o = .returned v ∧ Q0 Z q1 q2 p3 p4 cs h0 n0 v U'.heap L ∧ FrameEnd s o U' L room_1.cells room_1.slots) (s₁.setTop (mkF m 0 #[.val (.long q1), .second, .val (.long q2), .second, .val (.int p3), .val (.int p4), .unset, .unset, .unset, .unset, .unset, .unset, .unset, .unset, .unset, .unset, .unset, .unset, .unset, .unset] []))
  refine own_via (fun _ => XS.lloadN X0.here hx rfl (hb hby at_0) rfl) ?_
  show own_Go p e below _ (s₁.setTop (mkF m 1 #[.val (.long q1), .second, .val (.long q2), .second, .val (.int p3), .val (.int p4), .unset, .unset, .unset, .unset, .unset, .unset, .unset, .unset, .unset, .unset, .unset, .unset, .unset, .unset] [(.long q1)]))
  refine own_via (fun _ => XS.iconst X0.here hx rfl (hb hby at_1)) ?_
  show own_Go p e below _ (s₁.setTop (mkF m 2 #[.val (.long q1), .second, .val (.long q2), .second, .val (.int p3), .val (.int p4), .unset, .unset, .unset, .unset, .unset, .unset, .unset, .unset, .unset, .unset, .unset, .unset, .unset, .unset] [(.int (0 : Int32)), (.long q1)]))
  obtain ⟨_, _, ⟨T_1, L_1, k_1, n_1⟩, -, X_1, ⟨Lc_1, hQ_1, l_1, y_1, z_1⟩, st_1⟩ := Jvm.LawKit.callS X0 hx (y := (⟨"com/example/kworum/kworum/model/EntryEqualsPinLaw", "ch", "(JI)C"⟩ : MethodName)) hown (mvT hZ (own_w hw 0 rfl)) (mvT hZ (own_w hw 1 rfl)) (mvT hZ (own_w hw 2 rfl)) (mvT hZ (own_w hw 3 rfl)) (by decide) (backOf (W := 0) (rmch l Z a0 hw [] q1 (0 : Int32) h0 n0 Z0 ) hZ (own_w hw 3 rfl) (own_w hw 2 rfl) (by decide) (by decide)) (g := (mkF m 2 #[.val (.long q1), .second, .val (.long q2), .second, .val (.int p3), .val (.int p4), .unset, .unset, .unset, .unset, .unset, .unset, .unset, .unset, .unset, .unset, .unset, .unset, .unset, .unset] [(.int (0 : Int32)), (.long q1)])) rfl (by rw [hml]; rfl) (argsL := [(.long q1), (.int (0 : Int32))]) (rest := []) (lenOf pd_4 rfl) rfl (by show 2 * 0 + _ ≤ _; exact Nat.le_of_eq rfl) (hb hby at_2) (fun _ _ => ⟨rfl, e0, (by decide : 0 + 0 ≤ _), (by decide : 0 + 0 ≤ _)⟩)
  dsimp only [Pt.U, Pt.locs, Pt.cells, Pt.slots] at X_1 l_1 y_1 z_1 st_1 hQ_1
  subst l_1 y_1 z_1
  obtain ⟨c0, rfl, Nq_1, e_1, q_1_0⟩ := hQ_1
  have N_1 := Fr.app N0 Nq_1
  refine own_via st_1 ?_
  show own_Go p e below _ (T_1.setTop (mkF m 5 #[.val (.long q1), .second, .val (.long q2), .second, .val (.int p3), .val (.int p4), .unset, .unset, .unset, .unset, .unset, .unset, .unset, .unset, .unset, .unset, .unset, .unset, .unset, .unset] [(.int c0)]))
  refine own_via (fun _ => XS.istore X_1.here hx rfl (hb hby at_5) rfl (l' := #[.val (.long q1), .second, .val (.long q2), .second, .val (.int p3), .val (.int p4), .val (.int c0), .unset, .unset, .unset, .unset, .unset, .unset, .unset, .unset, .unset, .unset, .unset, .unset, .unset]) rfl) ?_
  show own_Go p e below _ (T_1.setTop (mkF m 7 #[.val (.long q1), .second, .val (.long q2), .second, .val (.int p3), .val (.int p4), .val (.int c0), .unset, .unset, .unset, .unset, .unset, .unset, .unset, .unset, .unset, .unset, .unset, .unset, .unset] []))
  refine own_via (fun _ => XS.lloadN X_1.here hx rfl (hb hby at_7) rfl) ?_
  show own_Go p e below _ (T_1.setTop (mkF m 8 #[.val (.long q1), .second, .val (.long q2), .second, .val (.int p3), .val (.int p4), .val (.int c0), .unset, .unset, .unset, .unset, .unset, .unset, .unset, .unset, .unset, .unset, .unset, .unset, .unset] [(.long q1)]))
  refine own_via (fun _ => XS.iconst X_1.here hx rfl (hb hby at_8)) ?_
  show own_Go p e below _ (T_1.setTop (mkF m 9 #[.val (.long q1), .second, .val (.long q2), .second, .val (.int p3), .val (.int p4), .val (.int c0), .unset, .unset, .unset, .unset, .unset, .unset, .unset, .unset, .unset, .unset, .unset, .unset, .unset] [(.int (1 : Int32)), (.long q1)]))
  obtain ⟨_, _, ⟨T_2, L_2, k_2, n_2⟩, -, X_2, ⟨Lc_2, hQ_2, l_2, y_2, z_2⟩, st_2⟩ := Jvm.LawKit.callS X_1 hx (y := (⟨"com/example/kworum/kworum/model/EntryEqualsPinLaw", "ch", "(JI)C"⟩ : MethodName)) hown (mvT hZ (own_w hw 0 rfl)) (mvT hZ (own_w hw 1 rfl)) (mvT hZ (own_w hw 2 rfl)) (mvT hZ (own_w hw 3 rfl)) (by decide) (backOf (W := 0) (rmch l Z a0 hw [] q1 (1 : Int32) h0 n0 Z0 ) hZ (own_w hw 3 rfl) (own_w hw 2 rfl) (by decide) (by decide)) (g := (mkF m 9 #[.val (.long q1), .second, .val (.long q2), .second, .val (.int p3), .val (.int p4), .val (.int c0), .unset, .unset, .unset, .unset, .unset, .unset, .unset, .unset, .unset, .unset, .unset, .unset, .unset] [(.int (1 : Int32)), (.long q1)])) rfl (by rw [hml]; rfl) (argsL := [(.long q1), (.int (1 : Int32))]) (rest := []) (lenOf pd_4 rfl) rfl (by show 2 * 0 + _ ≤ _; exact Nat.le_of_eq rfl) (hb hby at_9) (fun _ _ => ⟨rfl, e_1, (by decide : 0 + 0 ≤ _), (by decide : 0 + 0 ≤ _)⟩)
  dsimp only [Pt.U, Pt.locs, Pt.cells, Pt.slots] at X_2 l_2 y_2 z_2 st_2 hQ_2
  subst l_2 y_2 z_2
  obtain ⟨c1, rfl, Nq_2, e_2, q_2_0⟩ := hQ_2
  have N_2 := Fr.app N_1 Nq_2
  refine own_via st_2 ?_
  show own_Go p e below _ (T_2.setTop (mkF m 12 #[.val (.long q1), .second, .val (.long q2), .second, .val (.int p3), .val (.int p4), .val (.int c0), .unset, .unset, .unset, .unset, .unset, .unset, .unset, .unset, .unset, .unset, .unset, .unset, .unset] [(.int c1)]))
  refine own_via (fun _ => XS.istore X_2.here hx rfl (hb hby at_12) rfl (l' := #[.val (.long q1), .second, .val (.long q2), .second, .val (.int p3), .val (.int p4), .val (.int c0), .val (.int c1), .unset, .unset, .unset, .unset, .unset, .unset, .unset, .unset, .unset, .unset, .unset, .unset]) rfl) ?_
  show own_Go p e below _ (T_2.setTop (mkF m 14 #[.val (.long q1), .second, .val (.long q2), .second, .val (.int p3), .val (.int p4), .val (.int c0), .val (.int c1), .unset, .unset, .unset, .unset, .unset, .unset, .unset, .unset, .unset, .unset, .unset, .unset] []))
  refine own_via (fun _ => XS.lloadN X_2.here hx rfl (hb hby at_14) rfl) ?_
  show own_Go p e below _ (T_2.setTop (mkF m 15 #[.val (.long q1), .second, .val (.long q2), .second, .val (.int p3), .val (.int p4), .val (.int c0), .val (.int c1), .unset, .unset, .unset, .unset, .unset, .unset, .unset, .unset, .unset, .unset, .unset, .unset] [(.long q1)]))
  refine own_via (fun _ => XS.iconst X_2.here hx rfl (hb hby at_15)) ?_
  show own_Go p e below _ (T_2.setTop (mkF m 16 #[.val (.long q1), .second, .val (.long q2), .second, .val (.int p3), .val (.int p4), .val (.int c0), .val (.int c1), .unset, .unset, .unset, .unset, .unset, .unset, .unset, .unset, .unset, .unset, .unset, .unset] [(.int (2 : Int32)), (.long q1)]))
  obtain ⟨_, _, ⟨T_3, L_3, k_3, n_3⟩, -, X_3, ⟨Lc_3, hQ_3, l_3, y_3, z_3⟩, st_3⟩ := Jvm.LawKit.callS X_2 hx (y := (⟨"com/example/kworum/kworum/model/EntryEqualsPinLaw", "ch", "(JI)C"⟩ : MethodName)) hown (mvT hZ (own_w hw 0 rfl)) (mvT hZ (own_w hw 1 rfl)) (mvT hZ (own_w hw 2 rfl)) (mvT hZ (own_w hw 3 rfl)) (by decide) (backOf (W := 0) (rmch l Z a0 hw [] q1 (2 : Int32) h0 n0 Z0 ) hZ (own_w hw 3 rfl) (own_w hw 2 rfl) (by decide) (by decide)) (g := (mkF m 16 #[.val (.long q1), .second, .val (.long q2), .second, .val (.int p3), .val (.int p4), .val (.int c0), .val (.int c1), .unset, .unset, .unset, .unset, .unset, .unset, .unset, .unset, .unset, .unset, .unset, .unset] [(.int (2 : Int32)), (.long q1)])) rfl (by rw [hml]; rfl) (argsL := [(.long q1), (.int (2 : Int32))]) (rest := []) (lenOf pd_4 rfl) rfl (by show 2 * 0 + _ ≤ _; exact Nat.le_of_eq rfl) (hb hby at_16) (fun _ _ => ⟨rfl, e_2, (by decide : 0 + 0 ≤ _), (by decide : 0 + 0 ≤ _)⟩)
  dsimp only [Pt.U, Pt.locs, Pt.cells, Pt.slots] at X_3 l_3 y_3 z_3 st_3 hQ_3
  subst l_3 y_3 z_3
  obtain ⟨c2, rfl, Nq_3, e_3, q_3_0⟩ := hQ_3
  have N_3 := Fr.app N_2 Nq_3
  refine own_via st_3 ?_
  show own_Go p e below _ (T_3.setTop (mkF m 19 #[.val (.long q1), .second, .val (.long q2), .second, .val (.int p3), .val (.int p4), .val (.int c0), .val (.int c1), .unset, .unset, .unset, .unset, .unset, .unset, .unset, .unset, .unset, .unset, .unset, .unset] [(.int c2)]))
  refine own_via (fun _ => XS.istore X_3.here hx rfl (hb hby at_19) rfl (l' := #[.val (.long q1), .second, .val (.long q2), .second, .val (.int p3), .val (.int p4), .val (.int c0), .val (.int c1), .val (.int c2), .unset, .unset, .unset, .unset, .unset, .unset, .unset, .unset, .unset, .unset, .unset]) rfl) ?_
  show own_Go p e below _ (T_3.setTop (mkF m 21 #[.val (.long q1), .second, .val (.long q2), .second, .val (.int p3), .val (.int p4), .val (.int c0), .val (.int c1), .val (.int c2), .unset, .unset, .unset, .unset, .unset, .unset, .unset, .unset, .unset, .unset, .unset] []))
  refine own_via (fun _ => XS.lloadN X_3.here hx rfl (hb hby at_21) rfl) ?_
  show own_Go p e below _ (T_3.setTop (mkF m 22 #[.val (.long q1), .second, .val (.long q2), .second, .val (.int p3), .val (.int p4), .val (.int c0), .val (.int c1), .val (.int c2), .unset, .unset, .unset, .unset, .unset, .unset, .unset, .unset, .unset, .unset, .unset] [(.long q1)]))
  refine own_via (fun _ => XS.iconst X_3.here hx rfl (hb hby at_22)) ?_
  show own_Go p e below _ (T_3.setTop (mkF m 23 #[.val (.long q1), .second, .val (.long q2), .second, .val (.int p3), .val (.int p4), .val (.int c0), .val (.int c1), .val (.int c2), .unset, .unset, .unset, .unset, .unset, .unset, .unset, .unset, .unset, .unset, .unset] [(.int (3 : Int32)), (.long q1)]))
  obtain ⟨_, _, ⟨T_4, L_4, k_4, n_4⟩, -, X_4, ⟨Lc_4, hQ_4, l_4, y_4, z_4⟩, st_4⟩ := Jvm.LawKit.callS X_3 hx (y := (⟨"com/example/kworum/kworum/model/EntryEqualsPinLaw", "ch", "(JI)C"⟩ : MethodName)) hown (mvT hZ (own_w hw 0 rfl)) (mvT hZ (own_w hw 1 rfl)) (mvT hZ (own_w hw 2 rfl)) (mvT hZ (own_w hw 3 rfl)) (by decide) (backOf (W := 0) (rmch l Z a0 hw [] q1 (3 : Int32) h0 n0 Z0 ) hZ (own_w hw 3 rfl) (own_w hw 2 rfl) (by decide) (by decide)) (g := (mkF m 23 #[.val (.long q1), .second, .val (.long q2), .second, .val (.int p3), .val (.int p4), .val (.int c0), .val (.int c1), .val (.int c2), .unset, .unset, .unset, .unset, .unset, .unset, .unset, .unset, .unset, .unset, .unset] [(.int (3 : Int32)), (.long q1)])) rfl (by rw [hml]; rfl) (argsL := [(.long q1), (.int (3 : Int32))]) (rest := []) (lenOf pd_4 rfl) rfl (by show 2 * 0 + _ ≤ _; exact Nat.le_of_eq rfl) (hb hby at_23) (fun _ _ => ⟨rfl, e_3, (by decide : 0 + 0 ≤ _), (by decide : 0 + 0 ≤ _)⟩)
  dsimp only [Pt.U, Pt.locs, Pt.cells, Pt.slots] at X_4 l_4 y_4 z_4 st_4 hQ_4
  subst l_4 y_4 z_4
  obtain ⟨c3, rfl, Nq_4, e_4, q_4_0⟩ := hQ_4
  have N_4 := Fr.app N_3 Nq_4
  refine own_via st_4 ?_
  show own_Go p e below _ (T_4.setTop (mkF m 26 #[.val (.long q1), .second, .val (.long q2), .second, .val (.int p3), .val (.int p4), .val (.int c0), .val (.int c1), .val (.int c2), .unset, .unset, .unset, .unset, .unset, .unset, .unset, .unset, .unset, .unset, .unset] [(.int c3)]))
  refine own_via (fun _ => XS.istore X_4.here hx rfl (hb hby at_26) rfl (l' := #[.val (.long q1), .second, .val (.long q2), .second, .val (.int p3), .val (.int p4), .val (.int c0), .val (.int c1), .val (.int c2), .val (.int c3), .unset, .unset, .unset, .unset, .unset, .unset, .unset, .unset, .unset, .unset]) rfl) ?_
  show own_Go p e below _ (T_4.setTop (mkF m 28 #[.val (.long q1), .second, .val (.long q2), .second, .val (.int p3), .val (.int p4), .val (.int c0), .val (.int c1), .val (.int c2), .val (.int c3), .unset, .unset, .unset, .unset, .unset, .unset, .unset, .unset, .unset, .unset] []))
  refine own_via (fun _ => XS.lloadN X_4.here hx rfl (hb hby at_28) rfl) ?_
  show own_Go p e below _ (T_4.setTop (mkF m 29 #[.val (.long q1), .second, .val (.long q2), .second, .val (.int p3), .val (.int p4), .val (.int c0), .val (.int c1), .val (.int c2), .val (.int c3), .unset, .unset, .unset, .unset, .unset, .unset, .unset, .unset, .unset, .unset] [(.long q1)]))
  refine own_via (fun _ => XS.iconst X_4.here hx rfl (hb hby at_29)) ?_
  show own_Go p e below _ (T_4.setTop (mkF m 30 #[.val (.long q1), .second, .val (.long q2), .second, .val (.int p3), .val (.int p4), .val (.int c0), .val (.int c1), .val (.int c2), .val (.int c3), .unset, .unset, .unset, .unset, .unset, .unset, .unset, .unset, .unset, .unset] [(.int (4 : Int32)), (.long q1)]))
  obtain ⟨_, _, ⟨T_5, L_5, k_5, n_5⟩, -, X_5, ⟨Lc_5, hQ_5, l_5, y_5, z_5⟩, st_5⟩ := Jvm.LawKit.callS X_4 hx (y := (⟨"com/example/kworum/kworum/model/EntryEqualsPinLaw", "ch", "(JI)C"⟩ : MethodName)) hown (mvT hZ (own_w hw 0 rfl)) (mvT hZ (own_w hw 1 rfl)) (mvT hZ (own_w hw 2 rfl)) (mvT hZ (own_w hw 3 rfl)) (by decide) (backOf (W := 0) (rmch l Z a0 hw [] q1 (4 : Int32) h0 n0 Z0 ) hZ (own_w hw 3 rfl) (own_w hw 2 rfl) (by decide) (by decide)) (g := (mkF m 30 #[.val (.long q1), .second, .val (.long q2), .second, .val (.int p3), .val (.int p4), .val (.int c0), .val (.int c1), .val (.int c2), .val (.int c3), .unset, .unset, .unset, .unset, .unset, .unset, .unset, .unset, .unset, .unset] [(.int (4 : Int32)), (.long q1)])) rfl (by rw [hml]; rfl) (argsL := [(.long q1), (.int (4 : Int32))]) (rest := []) (lenOf pd_4 rfl) rfl (by show 2 * 0 + _ ≤ _; exact Nat.le_of_eq rfl) (hb hby at_30) (fun _ _ => ⟨rfl, e_4, (by decide : 0 + 0 ≤ _), (by decide : 0 + 0 ≤ _)⟩)
  dsimp only [Pt.U, Pt.locs, Pt.cells, Pt.slots] at X_5 l_5 y_5 z_5 st_5 hQ_5
  subst l_5 y_5 z_5
  obtain ⟨c4, rfl, Nq_5, e_5, q_5_0⟩ := hQ_5
  have N_5 := Fr.app N_4 Nq_5
  refine own_via st_5 ?_
  show own_Go p e below _ (T_5.setTop (mkF m 33 #[.val (.long q1), .second, .val (.long q2), .second, .val (.int p3), .val (.int p4), .val (.int c0), .val (.int c1), .val (.int c2), .val (.int c3), .unset, .unset, .unset, .unset, .unset, .unset, .unset, .unset, .unset, .unset] [(.int c4)]))
  refine own_via (fun _ => XS.istore X_5.here hx rfl (hb hby at_33) rfl (l' := #[.val (.long q1), .second, .val (.long q2), .second, .val (.int p3), .val (.int p4), .val (.int c0), .val (.int c1), .val (.int c2), .val (.int c3), .val (.int c4), .unset, .unset, .unset, .unset, .unset, .unset, .unset, .unset, .unset]) rfl) ?_
  show own_Go p e below _ (T_5.setTop (mkF m 35 #[.val (.long q1), .second, .val (.long q2), .second, .val (.int p3), .val (.int p4), .val (.int c0), .val (.int c1), .val (.int c2), .val (.int c3), .val (.int c4), .unset, .unset, .unset, .unset, .unset, .unset, .unset, .unset, .unset] []))
  refine own_via (fun _ => XS.iload X_5.here hx rfl (hb hby at_35) rfl) ?_
  show own_Go p e below _ (T_5.setTop (mkF m 37 #[.val (.long q1), .second, .val (.long q2), .second, .val (.int p3), .val (.int p4), .val (.int c0), .val (.int c1), .val (.int c2), .val (.int c3), .val (.int c4), .unset, .unset, .unset, .unset, .unset, .unset, .unset, .unset, .unset] [(.int p3)]))
  refine own_via (fun _ => XS.iconst X_5.here hx rfl (hb hby at_37)) ?_
  show own_Go p e below _ (T_5.setTop (mkF m 38 #[.val (.long q1), .second, .val (.long q2), .second, .val (.int p3), .val (.int p4), .val (.int c0), .val (.int c1), .val (.int c2), .val (.int c3), .val (.int c4), .unset, .unset, .unset, .unset, .unset, .unset, .unset, .unset, .unset] [(.int (1 : Int32)), (.int p3)]))
  refine own_via (fun _ => XS.iand X_5.here hx rfl (hb hby at_38) rfl) ?_
  show own_Go p e below _ (T_5.setTop (mkF m 39 #[.val (.long q1), .second, .val (.long q2), .second, .val (.int p3), .val (.int p4), .val (.int c0), .val (.int c1), .val (.int c2), .val (.int c3), .val (.int c4), .unset, .unset, .unset, .unset, .unset, .unset, .unset, .unset, .unset] [(.int (p3 &&& (1 : Int32)))]))
  have kj_6 : ∀ (T_7 : State) (L_8 : List Loc) (d0 : Int32) (hd0 : ¬ d0 < 0 ∧ ¬ (255 : Int32) < d0) (X_10 : Stand p l e room_1 s m #[(.long q1), (.long q2), (.int p3), (.int p4)] below meth c T_7 L_8 0 0) (e_10 : T_7.heap = h0) (N_10 : Fr n0 L_8), own_Go p e below (fun o U' => ∃ v L, o = .returned v ∧ Q0 Z q1 q2 p3 p4 cs h0 n0 v U'.heap L ∧ FrameEnd s o U' L room_1.cells room_1.slots) (T_7.setTop (mkF m 52 #[.val (.long q1), .second, .val (.long q2), .second, .val (.int p3), .val (.int p4), .val (.int c0), .val (.int c1), .val (.int c2), .val (.int c3), .val (.int c4), .unset, .unset, .unset, .unset, .unset, .unset, .unset, .unset, .unset] [(.int d0)])) := by
    intro T_7 L_8 d0 hd0 X_10 e_10 N_10
    refine own_via (fun _ => XS.istore X_10.here hx rfl (hb hby at_52) rfl (l' := #[.val (.long q1), .second, .val (.long q2), .second, .val (.int p3), .val (.int p4), .val (.int c0), .val (.int c1), .val (.int c2), .val (.int c3), .val (.int c4), .val (.int d0), .unset, .unset, .unset, .unset, .unset, .unset, .unset, .unset]) rfl) ?_
    show own_Go p e below _ (T_7.setTop (mkF m 54 #[.val (.long q1), .second, .val (.long q2), .second, .val (.int p3), .val (.int p4), .val (.int c0), .val (.int c1), .val (.int c2), .val (.int c3), .val (.int c4), .val (.int d0), .unset, .unset, .unset, .unset, .unset, .unset, .unset, .unset] []))
    refine own_via (fun _ => XS.iload X_10.here hx rfl (hb hby at_54) rfl) ?_
    show own_Go p e below _ (T_7.setTop (mkF m 56 #[.val (.long q1), .second, .val (.long q2), .second, .val (.int p3), .val (.int p4), .val (.int c0), .val (.int c1), .val (.int c2), .val (.int c3), .val (.int c4), .val (.int d0), .unset, .unset, .unset, .unset, .unset, .unset, .unset, .unset] [(.int p3)]))
    refine own_via (fun _ => XS.iconst X_10.here hx rfl (hb hby at_56)) ?_
    show own_Go p e below _ (T_7.setTop (mkF m 57 #[.val (.long q1), .second, .val (.long q2), .second, .val (.int p3), .val (.int p4), .val (.int c0), .val (.int c1), .val (.int c2), .val (.int c3), .val (.int c4), .val (.int d0), .unset, .unset, .unset, .unset, .unset, .unset, .unset, .unset] [(.int (2 : Int32)), (.int p3)]))
    refine own_via (fun _ => XS.iand X_10.here hx rfl (hb hby at_57) rfl) ?_
    show own_Go p e below _ (T_7.setTop (mkF m 58 #[.val (.long q1), .second, .val (.long q2), .second, .val (.int p3), .val (.int p4), .val (.int c0), .val (.int c1), .val (.int c2), .val (.int c3), .val (.int c4), .val (.int d0), .unset, .unset, .unset, .unset, .unset, .unset, .unset, .unset] [(.int (p3 &&& (2 : Int32)))]))
    have kj_11 : ∀ (T_12 : State) (L_13 : List Loc) (d1 : Int32) (hd1 : ¬ d1 < 0 ∧ ¬ (255 : Int32) < d1) (X_15 : Stand p l e room_1 s m #[(.long q1), (.long q2), (.int p3), (.int p4)] below meth c T_12 L_13 0 0) (e_15 : T_12.heap = h0) (N_15 : Fr n0 L_13), own_Go p e below (fun o U' => ∃ v L, o = .returned v ∧ Q0 Z q1 q2 p3 p4 cs h0 n0 v U'.heap L ∧ FrameEnd s o U' L room_1.cells room_1.slots) (T_12.setTop (mkF m 71 #[.val (.long q1), .second, .val (.long q2), .second, .val (.int p3), .val (.int p4), .val (.int c0), .val (.int c1), .val (.int c2), .val (.int c3), .val (.int c4), .val (.int d0), .unset, .unset, .unset, .unset, .unset, .unset, .unset, .unset] [(.int d1)])) := by
      intro T_12 L_13 d1 hd1 X_15 e_15 N_15
      refine own_via (fun _ => XS.istore X_15.here hx rfl (hb hby at_71) rfl (l' := #[.val (.long q1), .second, .val (.long q2), .second, .val (.int p3), .val (.int p4), .val (.int c0), .val (.int c1), .val (.int c2), .val (.int c3), .val (.int c4), .val (.int d0), .val (.int d1), .unset, .unset, .unset, .unset, .unset, .unset, .unset]) rfl) ?_
      show own_Go p e below _ (T_12.setTop (mkF m 73 #[.val (.long q1), .second, .val (.long q2), .second, .val (.int p3), .val (.int p4), .val (.int c0), .val (.int c1), .val (.int c2), .val (.int c3), .val (.int c4), .val (.int d0), .val (.int d1), .unset, .unset, .unset, .unset, .unset, .unset, .unset] []))
      refine own_via (fun _ => XS.iload X_15.here hx rfl (hb hby at_73) rfl) ?_
      show own_Go p e below _ (T_12.setTop (mkF m 75 #[.val (.long q1), .second, .val (.long q2), .second, .val (.int p3), .val (.int p4), .val (.int c0), .val (.int c1), .val (.int c2), .val (.int c3), .val (.int c4), .val (.int d0), .val (.int d1), .unset, .unset, .unset, .unset, .unset, .unset, .unset] [(.int p3)]))
      refine own_via (fun _ => XS.iconst X_15.here hx rfl (hb hby at_75)) ?_
      show own_Go p e below _ (T_12.setTop (mkF m 76 #[.val (.long q1), .second, .val (.long q2), .second, .val (.int p3), .val (.int p4), .val (.int c0), .val (.int c1), .val (.int c2), .val (.int c3), .val (.int c4), .val (.int d0), .val (.int d1), .unset, .unset, .unset, .unset, .unset, .unset, .unset] [(.int (4 : Int32)), (.int p3)]))
      refine own_via (fun _ => XS.iand X_15.here hx rfl (hb hby at_76) rfl) ?_
      show own_Go p e below _ (T_12.setTop (mkF m 77 #[.val (.long q1), .second, .val (.long q2), .second, .val (.int p3), .val (.int p4), .val (.int c0), .val (.int c1), .val (.int c2), .val (.int c3), .val (.int c4), .val (.int d0), .val (.int d1), .unset, .unset, .unset, .unset, .unset, .unset, .unset] [(.int (p3 &&& (4 : Int32)))]))
      have kj_16 : ∀ (T_17 : State) (L_18 : List Loc) (d2 : Int32) (hd2 : ¬ d2 < 0 ∧ ¬ (255 : Int32) < d2) (X_20 : Stand p l e room_1 s m #[(.long q1), (.long q2), (.int p3), (.int p4)] below meth c T_17 L_18 0 0) (e_20 : T_17.heap = h0) (N_20 : Fr n0 L_18), own_Go p e below (fun o U' => ∃ v L, o = .returned v ∧ Q0 Z q1 q2 p3 p4 cs h0 n0 v U'.heap L ∧ FrameEnd s o U' L room_1.cells room_1.slots) (T_17.setTop (mkF m 90 #[.val (.long q1), .second, .val (.long q2), .second, .val (.int p3), .val (.int p4), .val (.int c0), .val (.int c1), .val (.int c2), .val (.int c3), .val (.int c4), .val (.int d0), .val (.int d1), .unset, .unset, .unset, .unset, .unset, .unset, .unset] [(.int d2)])) := by
        intro T_17 L_18 d2 hd2 X_20 e_20 N_20
        refine own_via (fun _ => XS.istore X_20.here hx rfl (hb hby at_90) rfl (l' := #[.val (.long q1), .second, .val (.long q2), .second, .val (.int p3), .val (.int p4), .val (.int c0), .val (.int c1), .val (.int c2), .val (.int c3), .val (.int c4), .val (.int d0), .val (.int d1), .val (.int d2), .unset, .unset, .unset, .unset, .unset, .unset]) rfl) ?_
        show own_Go p e below _ (T_17.setTop (mkF m 92 #[.val (.long q1), .second, .val (.long q2), .second, .val (.int p3), .val (.int p4), .val (.int c0), .val (.int c1), .val (.int c2), .val (.int c3), .val (.int c4), .val (.int d0), .val (.int d1), .val (.int d2), .unset, .unset, .unset, .unset, .unset, .unset] []))
        refine own_via (fun _ => XS.iload X_20.here hx rfl (hb hby at_92) rfl) ?_
        show own_Go p e below _ (T_17.setTop (mkF m 94 #[.val (.long q1), .second, .val (.long q2), .second, .val (.int p3), .val (.int p4), .val (.int c0), .val (.int c1), .val (.int c2), .val (.int c3), .val (.int c4), .val (.int d0), .val (.int d1), .val (.int d2), .unset, .unset, .unset, .unset, .unset, .unset] [(.int p3)]))
        refine own_via (fun _ => XS.bipush X_20.here hx rfl (hb hby at_94)) ?_
        show own_Go p e below _ (T_17.setTop (mkF m 96 #[.val (.long q1), .second, .val (.long q2), .second, .val (.int p3), .val (.int p4), .val (.int c0), .val (.int c1), .val (.int c2), .val (.int c3), .val (.int c4), .val (.int d0), .val (.int d1), .val (.int d2), .unset, .unset, .unset, .unset, .unset, .unset] [(.int (8 : Int32)), (.int p3)]))
        refine own_via (fun _ => XS.iand X_20.here hx rfl (hb hby at_96) rfl) ?_
        show own_Go p e below _ (T_17.setTop (mkF m 97 #[.val (.long q1), .second, .val (.long q2), .second, .val (.int p3), .val (.int p4), .val (.int c0), .val (.int c1), .val (.int c2), .val (.int c3), .val (.int c4), .val (.int d0), .val (.int d1), .val (.int d2), .unset, .unset, .unset, .unset, .unset, .unset] [(.int (p3 &&& (8 : Int32)))]))
        have kj_21 : ∀ (T_22 : State) (L_23 : List Loc) (d3 : Int32) (hd3 : ¬ d3 < 0 ∧ ¬ (255 : Int32) < d3) (X_25 : Stand p l e room_1 s m #[(.long q1), (.long q2), (.int p3), (.int p4)] below meth c T_22 L_23 0 0) (e_25 : T_22.heap = h0) (N_25 : Fr n0 L_23), own_Go p e below (fun o U' => ∃ v L, o = .returned v ∧ Q0 Z q1 q2 p3 p4 cs h0 n0 v U'.heap L ∧ FrameEnd s o U' L room_1.cells room_1.slots) (T_22.setTop (mkF m 110 #[.val (.long q1), .second, .val (.long q2), .second, .val (.int p3), .val (.int p4), .val (.int c0), .val (.int c1), .val (.int c2), .val (.int c3), .val (.int c4), .val (.int d0), .val (.int d1), .val (.int d2), .unset, .unset, .unset, .unset, .unset, .unset] [(.int d3)])) := by
          intro T_22 L_23 d3 hd3 X_25 e_25 N_25
          refine own_via (fun _ => XS.istore X_25.here hx rfl (hb hby at_110) rfl (l' := #[.val (.long q1), .second, .val (.long q2), .second, .val (.int p3), .val (.int p4), .val (.int c0), .val (.int c1), .val (.int c2), .val (.int c3), .val (.int c4), .val (.int d0), .val (.int d1), .val (.int d2), .val (.int d3), .unset, .unset, .unset, .unset, .unset]) rfl) ?_
          show own_Go p e below _ (T_22.setTop (mkF m 112 #[.val (.long q1), .second, .val (.long q2), .second, .val (.int p3), .val (.int p4), .val (.int c0), .val (.int c1), .val (.int c2), .val (.int c3), .val (.int c4), .val (.int d0), .val (.int d1), .val (.int d2), .val (.int d3), .unset, .unset, .unset, .unset, .unset] []))
          refine own_via (fun _ => XS.iload X_25.here hx rfl (hb hby at_112) rfl) ?_
          show own_Go p e below _ (T_22.setTop (mkF m 114 #[.val (.long q1), .second, .val (.long q2), .second, .val (.int p3), .val (.int p4), .val (.int c0), .val (.int c1), .val (.int c2), .val (.int c3), .val (.int c4), .val (.int d0), .val (.int d1), .val (.int d2), .val (.int d3), .unset, .unset, .unset, .unset, .unset] [(.int p3)]))
          refine own_via (fun _ => XS.bipush X_25.here hx rfl (hb hby at_114)) ?_
          show own_Go p e below _ (T_22.setTop (mkF m 116 #[.val (.long q1), .second, .val (.long q2), .second, .val (.int p3), .val (.int p4), .val (.int c0), .val (.int c1), .val (.int c2), .val (.int c3), .val (.int c4), .val (.int d0), .val (.int d1), .val (.int d2), .val (.int d3), .unset, .unset, .unset, .unset, .unset] [(.int (16 : Int32)), (.int p3)]))
          refine own_via (fun _ => XS.iand X_25.here hx rfl (hb hby at_116) rfl) ?_
          show own_Go p e below _ (T_22.setTop (mkF m 117 #[.val (.long q1), .second, .val (.long q2), .second, .val (.int p3), .val (.int p4), .val (.int c0), .val (.int c1), .val (.int c2), .val (.int c3), .val (.int c4), .val (.int d0), .val (.int d1), .val (.int d2), .val (.int d3), .unset, .unset, .unset, .unset, .unset] [(.int (p3 &&& (16 : Int32)))]))
          have kj_26 : ∀ (T_27 : State) (L_28 : List Loc) (d4 : Int32) (hd4 : ¬ d4 < 0 ∧ ¬ (255 : Int32) < d4) (X_30 : Stand p l e room_1 s m #[(.long q1), (.long q2), (.int p3), (.int p4)] below meth c T_27 L_28 0 0) (e_30 : T_27.heap = h0) (N_30 : Fr n0 L_28), own_Go p e below (fun o U' => ∃ v L, o = .returned v ∧ Q0 Z q1 q2 p3 p4 cs h0 n0 v U'.heap L ∧ FrameEnd s o U' L room_1.cells room_1.slots) (T_27.setTop (mkF m 130 #[.val (.long q1), .second, .val (.long q2), .second, .val (.int p3), .val (.int p4), .val (.int c0), .val (.int c1), .val (.int c2), .val (.int c3), .val (.int c4), .val (.int d0), .val (.int d1), .val (.int d2), .val (.int d3), .unset, .unset, .unset, .unset, .unset] [(.int d4)])) := by
            intro T_27 L_28 d4 hd4 X_30 e_30 N_30
            refine own_via (fun _ => XS.istore X_30.here hx rfl (hb hby at_130) rfl (l' := #[.val (.long q1), .second, .val (.long q2), .second, .val (.int p3), .val (.int p4), .val (.int c0), .val (.int c1), .val (.int c2), .val (.int c3), .val (.int c4), .val (.int d0), .val (.int d1), .val (.int d2), .val (.int d3), .val (.int d4), .unset, .unset, .unset, .unset]) rfl) ?_
            show own_Go p e below _ (T_27.setTop (mkF m 132 #[.val (.long q1), .second, .val (.long q2), .second, .val (.int p3), .val (.int p4), .val (.int c0), .val (.int c1), .val (.int c2), .val (.int c3), .val (.int c4), .val (.int d0), .val (.int d1), .val (.int d2), .val (.int d3), .val (.int d4), .unset, .unset, .unset, .unset] []))
            obtain ⟨T_31, h_31, X_31, e_31, E_31, A_31, D_31, -, st_31⟩ := newO X_30 hx hZ hown (own_w hw 5 rfl) (own_w hw 6 rfl) (own_w hw 7 rfl) e_30 (g := (mkF m 132 #[.val (.long q1), .second, .val (.long q2), .second, .val (.int p3), .val (.int p4), .val (.int c0), .val (.int c1), .val (.int c2), .val (.int c3), .val (.int c4), .val (.int d0), .val (.int d1), .val (.int d2), .val (.int d3), .val (.int d4), .unset, .unset, .unset, .unset] [])) rfl (hb hby at_132) (by decide) (by decide)
            obtain ⟨b_31, g_31⟩ : ∃ z, z = h0.size := ⟨_, rfl⟩
            rw [← g_31] at A_31 D_31 st_31
            have F_32 : Fld Z h_31 b_31 "com/example/kworum/kworum/model/Entry" "role" "Ljava/lang/String;" .null := D_31 (Or.inr (own_w hw 46 rfl)) (ty := (.object "java/lang/String")) (by decide)
            have F_33 : Fld Z h_31 b_31 "com/example/kworum/kworum/model/Entry" "type" "Ljava/lang/String;" .null := D_31 (Or.inr (own_w hw 48 rfl)) (ty := (.object "java/lang/String")) (by decide)
            have F_34 : Fld Z h_31 b_31 "com/example/kworum/kworum/model/Entry" "right" "Ljava/lang/String;" .null := D_31 (Or.inr (own_w hw 50 rfl)) (ty := (.object "java/lang/String")) (by decide)
            have F_35 : Fld Z h_31 b_31 "com/example/kworum/kworum/model/Entry" "target" "Ljava/lang/String;" .null := D_31 (Or.inr (own_w hw 52 rfl)) (ty := (.object "java/lang/String")) (by decide)
            have F_36 : Fld Z h_31 b_31 "com/example/kworum/kworum/model/Entry" "template" "Ljava/lang/String;" .null := D_31 (Or.inr (own_w hw 54 rfl)) (ty := (.object "java/lang/String")) (by decide)
            refine own_via st_31 ?_
            show own_Go p e below _ (T_31.setTop (mkF m 135 #[.val (.long q1), .second, .val (.long q2), .second, .val (.int p3), .val (.int p4), .val (.int c0), .val (.int c1), .val (.int c2), .val (.int c3), .val (.int c4), .val (.int d0), .val (.int d1), .val (.int d2), .val (.int d3), .val (.int d4), .unset, .unset, .unset, .unset] [(.ref b_31)]))
            refine own_via (fun _ => XS.dup X_31.here hx rfl (hb hby at_135) rfl rfl) ?_
            show own_Go p e below _ (T_31.setTop (mkF m 136 #[.val (.long q1), .second, .val (.long q2), .second, .val (.int p3), .val (.int p4), .val (.int c0), .val (.int c1), .val (.int c2), .val (.int c3), .val (.int c4), .val (.int d0), .val (.int d1), .val (.int d2), .val (.int d3), .val (.int d4), .unset, .unset, .unset, .unset] [(.ref b_31), (.ref b_31)]))
            refine own_via (fun _ => XS.iload X_31.here hx rfl (hb hby at_136) rfl) ?_
            show own_Go p e below _ (T_31.setTop (mkF m 138 #[.val (.long q1), .second, .val (.long q2), .second, .val (.int p3), .val (.int p4), .val (.int c0), .val (.int c1), .val (.int c2), .val (.int c3), .val (.int c4), .val (.int d0), .val (.int d1), .val (.int d2), .val (.int d3), .val (.int d4), .unset, .unset, .unset, .unset] [(.int c0), (.ref b_31), (.ref b_31)]))
            have K_37 : Keep h0 h_31 [] := (Keep.refl h0 []).ext E_31
            obtain ⟨_, _, ⟨T_38, L_38, k_38, n_38⟩, -, X_38, ⟨Lc_38, hQ_38, l_38, y_38, z_38⟩, st_38⟩ := Jvm.LawKit.callS X_31 hx (y := (⟨"com/example/kworum/kworum/model/EntryEqualsPinLaw", "s", "(C)Ljava/lang/String;"⟩ : MethodName)) hown (mvT hZ (own_w hw 8 rfl)) (mvT hZ (own_w hw 9 rfl)) (mvT hZ (own_w hw 2 rfl)) (mvT hZ (own_w hw 10 rfl)) (by decide) (backOf (W := 2) (rms l Z a0 hw [] c0 cs h_31 n0 (Nat.le_trans Z0 K_37.1) (O0.keep K_37 all0) Scs hcs q_1_0) hZ (own_w hw 10 rfl) (own_w hw 2 rfl) (by decide) (by decide)) (g := (mkF m 138 #[.val (.long q1), .second, .val (.long q2), .second, .val (.int p3), .val (.int p4), .val (.int c0), .val (.int c1), .val (.int c2), .val (.int c3), .val (.int c4), .val (.int d0), .val (.int d1), .val (.int d2), .val (.int d3), .val (.int d4), .unset, .unset, .unset, .unset] [(.int c0), (.ref b_31), (.ref b_31)])) rfl (by rw [hml]; rfl) (argsL := [(.int c0)]) (rest := [(.ref b_31), (.ref b_31)]) (lenOf pd_5 rfl) rfl (by show 2 * 0 + _ ≤ _; exact Nat.le_of_eq rfl) (hb hby at_138) (fun _ _ => ⟨rfl, e_31, (by decide : 1 + 3 ≤ _), (by decide : 5 + 6 ≤ _)⟩)
            dsimp only [Pt.U, Pt.locs, Pt.cells, Pt.slots] at X_38 l_38 y_38 z_38 st_38 hQ_38
            subst l_38 y_38 z_38
            obtain ⟨r_39, rfl, Nq_38, K_38q, q_38_0, q_38_1, q_38_2⟩ := hQ_38
            have N_38 := Fr.app N_30 Nq_38
            refine own_via st_38 ?_
            show own_Go p e below _ (T_38.setTop (mkF m 141 #[.val (.long q1), .second, .val (.long q2), .second, .val (.int p3), .val (.int p4), .val (.int c0), .val (.int c1), .val (.int c2), .val (.int c3), .val (.int c4), .val (.int d0), .val (.int d1), .val (.int d2), .val (.int d3), .val (.int d4), .unset, .unset, .unset, .unset] [(.ref r_39), (.ref b_31), (.ref b_31)]))
            refine own_via (fun _ => XS.iload X_38.here hx rfl (hb hby at_141) rfl) ?_
            show own_Go p e below _ (T_38.setTop (mkF m 143 #[.val (.long q1), .second, .val (.long q2), .second, .val (.int p3), .val (.int p4), .val (.int c0), .val (.int c1), .val (.int c2), .val (.int c3), .val (.int c4), .val (.int d0), .val (.int d1), .val (.int d2), .val (.int d3), .val (.int d4), .unset, .unset, .unset, .unset] [(.int c1), (.ref r_39), (.ref b_31), (.ref b_31)]))
            have K_40 : Keep h0 T_38.heap [] := Keep.trans (ws := []) K_37 K_38q all0
            obtain ⟨_, _, ⟨T_41, L_41, k_41, n_41⟩, -, X_41, ⟨Lc_41, hQ_41, l_41, y_41, z_41⟩, st_41⟩ := Jvm.LawKit.callS X_38 hx (y := (⟨"com/example/kworum/kworum/model/EntryEqualsPinLaw", "s", "(C)Ljava/lang/String;"⟩ : MethodName)) hown (mvT hZ (own_w hw 8 rfl)) (mvT hZ (own_w hw 9 rfl)) (mvT hZ (own_w hw 2 rfl)) (mvT hZ (own_w hw 10 rfl)) (by decide) (backOf (W := 3) (rms l Z a0 hw [] c1 cs T_38.heap n0 (Nat.le_trans Z0 K_40.1) (O0.keep K_40 all0) Scs hcs q_2_0) hZ (own_w hw 10 rfl) (own_w hw 2 rfl) (by decide) (by decide)) (g := (mkF m 143 #[.val (.long q1), .second, .val (.long q2), .second, .val (.int p3), .val (.int p4), .val (.int c0), .val (.int c1), .val (.int c2), .val (.int c3), .val (.int c4), .val (.int d0), .val (.int d1), .val (.int d2), .val (.int d3), .val (.int d4), .unset, .unset, .unset, .unset] [(.int c1), (.ref r_39), (.ref b_31), (.ref b_31)])) rfl (by rw [hml]; rfl) (argsL := [(.int c1)]) (rest := [(.ref r_39), (.ref b_31), (.ref b_31)]) (lenOf pd_5 rfl) rfl (by show 2 * 0 + _ ≤ _; exact Nat.le_of_eq rfl) (hb hby at_143) (fun _ _ => ⟨rfl, rfl, (by decide : 4 + 3 ≤ _), (by decide : 11 + 6 ≤ _)⟩)
            dsimp only [Pt.U, Pt.locs, Pt.cells, Pt.slots] at X_41 l_41 y_41 z_41 st_41 hQ_41
            subst l_41 y_41 z_41
            obtain ⟨r_42, rfl, Nq_41, K_41q, q_41_0, q_41_1, q_41_2⟩ := hQ_41
            have N_41 := Fr.app N_38 Nq_41
            refine own_via st_41 ?_
            show own_Go p e below _ (T_41.setTop (mkF m 146 #[.val (.long q1), .second, .val (.long q2), .second, .val (.int p3), .val (.int p4), .val (.int c0), .val (.int c1), .val (.int c2), .val (.int c3), .val (.int c4), .val (.int d0), .val (.int d1), .val (.int d2), .val (.int d3), .val (.int d4), .unset, .unset, .unset, .unset] [(.ref r_42), (.ref r_39), (.ref b_31), (.ref b_31)]))
            refine own_via (fun _ => XS.iload X_41.here hx rfl (hb hby at_146) rfl) ?_
            show own_Go p e below _ (T_41.setTop (mkF m 148 #[.val (.long q1), .second, .val (.long q2), .second, .val (.int p3), .val (.int p4), .val (.int c0), .val (.int c1), .val (.int c2), .val (.int c3), .val (.int c4), .val (.int d0), .val (.int d1), .val (.int d2), .val (.int d3), .val (.int d4), .unset, .unset, .unset, .unset] [(.int c2), (.ref r_42), (.ref r_39), (.ref b_31), (.ref b_31)]))
            have K_43 : Keep h0 T_41.heap [] := Keep.trans (ws := []) K_40 K_41q all0
            obtain ⟨_, _, ⟨T_44, L_44, k_44, n_44⟩, -, X_44, ⟨Lc_44, hQ_44, l_44, y_44, z_44⟩, st_44⟩ := Jvm.LawKit.callS X_41 hx (y := (⟨"com/example/kworum/kworum/model/EntryEqualsPinLaw", "s", "(C)Ljava/lang/String;"⟩ : MethodName)) hown (mvT hZ (own_w hw 8 rfl)) (mvT hZ (own_w hw 9 rfl)) (mvT hZ (own_w hw 2 rfl)) (mvT hZ (own_w hw 10 rfl)) (by decide) (backOf (W := 4) (rms l Z a0 hw [] c2 cs T_41.heap n0 (Nat.le_trans Z0 K_43.1) (O0.keep K_43 all0) Scs hcs q_3_0) hZ (own_w hw 10 rfl) (own_w hw 2 rfl) (by decide) (by decide)) (g := (mkF m 148 #[.val (.long q1), .second, .val (.long q2), .second, .val (.int p3), .val (.int p4), .val (.int c0), .val (.int c1), .val (.int c2), .val (.int c3), .val (.int c4), .val (.int d0), .val (.int d1), .val (.int d2), .val (.int d3), .val (.int d4), .unset, .unset, .unset, .unset] [(.int c2), (.ref r_42), (.ref r_39), (.ref b_31), (.ref b_31)])) rfl (by rw [hml]; rfl) (argsL := [(.int c2)]) (rest := [(.ref r_42), (.ref r_39), (.ref b_31), (.ref b_31)]) (lenOf pd_5 rfl) rfl (by show 2 * 0 + _ ≤ _; exact Nat.le_of_eq rfl) (hb hby at_148) (fun _ _ => ⟨rfl, rfl, (by decide : 7 + 3 ≤ _), (by decide : 17 + 6 ≤ _)⟩)
            dsimp only [Pt.U, Pt.locs, Pt.cells, Pt.slots] at X_44 l_44 y_44 z_44 st_44 hQ_44
            subst l_44 y_44 z_44
            obtain ⟨r_45, rfl, Nq_44, K_44q, q_44_0, q_44_1, q_44_2⟩ := hQ_44
            have N_44 := Fr.app N_41 Nq_44
            refine own_via st_44 ?_
            show own_Go p e below _ (T_44.setTop (mkF m 151 #[.val (.long q1), .second, .val (.long q2), .second, .val (.int p3), .val (.int p4), .val (.int c0), .val (.int c1), .val (.int c2), .val (.int c3), .val (.int c4), .val (.int d0), .val (.int d1), .val (.int d2), .val (.int d3), .val (.int d4), .unset, .unset, .unset, .unset] [(.ref r_45), (.ref r_42), (.ref r_39), (.ref b_31), (.ref b_31)]))
            refine own_via (fun _ => XS.iload X_44.here hx rfl (hb hby at_151) rfl) ?_
            show own_Go p e below _ (T_44.setTop (mkF m 153 #[.val (.long q1), .second, .val (.long q2), .second, .val (.int p3), .val (.int p4), .val (.int c0), .val (.int c1), .val (.int c2), .val (.int c3), .val (.int c4), .val (.int d0), .val (.int d1), .val (.int d2), .val (.int d3), .val (.int d4), .unset, .unset, .unset, .unset] [(.int c3), (.ref r_45), (.ref r_42), (.ref r_39), (.ref b_31), (.ref b_31)]))
            have K_46 : Keep h0 T_44.heap [] := Keep.trans (ws := []) K_43 K_44q all0
            obtain ⟨_, _, ⟨T_47, L_47, k_47, n_47⟩, -, X_47, ⟨Lc_47, hQ_47, l_47, y_47, z_47⟩, st_47⟩ := Jvm.LawKit.callS X_44 hx (y := (⟨"com/example/kworum/kworum/model/EntryEqualsPinLaw", "s", "(C)Ljava/lang/String;"⟩ : MethodName)) hown (mvT hZ (own_w hw 8 rfl)) (mvT hZ (own_w hw 9 rfl)) (mvT hZ (own_w hw 2 rfl)) (mvT hZ (own_w hw 10 rfl)) (by decide) (backOf (W := 5) (rms l Z a0 hw [] c3 cs T_44.heap n0 (Nat.le_trans Z0 K_46.1) (O0.keep K_46 all0) Scs hcs q_4_0) hZ (own_w hw 10 rfl) (own_w hw 2 rfl) (by decide) (by decide)) (g := (mkF m 153 #[.val (.long q1), .second, .val (.long q2), .second, .val (.int p3), .val (.int p4), .val (.int c0), .val (.int c1), .val (.int c2), .val (.int c3), .val (.int c4), .val (.int d0), .val (.int d1), .val (.int d2), .val (.int d3), .val (.int d4), .unset, .unset, .unset, .unset] [(.int c3), (.ref r_45), (.ref r_42), (.ref r_39), (.ref b_31), (.ref b_31)])) rfl (by rw [hml]; rfl) (argsL := [(.int c3)]) (rest := [(.ref r_45), (.ref r_42), (.ref r_39), (.ref b_31), (.ref b_31)]) (lenOf pd_5 rfl) rfl (by show 2 * 0 + _ ≤ _; exact Nat.le_of_eq rfl) (hb hby at_153) (fun _ _ => ⟨rfl, rfl, (by decide : 10 + 3 ≤ _), (by decide : 23 + 6 ≤ _)⟩)
            dsimp only [Pt.U, Pt.locs, Pt.cells, Pt.slots] at X_47 l_47 y_47 z_47 st_47 hQ_47
            subst l_47 y_47 z_47
            obtain ⟨r_48, rfl, Nq_47, K_47q, q_47_0, q_47_1, q_47_2⟩ := hQ_47
            have N_47 := Fr.app N_44 Nq_47
            refine own_via st_47 ?_
            show own_Go p e below _ (T_47.setTop (mkF m 156 #[.val (.long q1), .second, .val (.long q2), .second, .val (.int p3), .val (.int p4), .val (.int c0), .val (.int c1), .val (.int c2), .val (.int c3), .val (.int c4), .val (.int d0), .val (.int d1), .val (.int d2), .val (.int d3), .val (.int d4), .unset, .unset, .unset, .unset] [(.ref r_48), (.ref r_45), (.ref r_42), (.ref r_39), (.ref b_31), (.ref b_31)]))
            refine own_via (fun _ => XS.iload X_47.here hx rfl (hb hby at_156) rfl) ?_
            show own_Go p e below _ (T_47.setTop (mkF m 158 #[.val (.long q1), .second, .val (.long q2), .second, .val (.int p3), .val (.int p4), .val (.int c0), .val (.int c1), .val (.int c2), .val (.int c3), .val (.int c4), .val (.int d0), .val (.int d1), .val (.int d2), .val (.int d3), .val (.int d4), .unset, .unset, .unset, .unset] [(.int c4), (.ref r_48), (.ref r_45), (.ref r_42), (.ref r_39), (.ref b_31), (.ref b_31)]))
            have K_49 : Keep h0 T_47.heap [] := Keep.trans (ws := []) K_46 K_47q all0
            obtain ⟨_, _, ⟨T_50, L_50, k_50, n_50⟩, -, X_50, ⟨Lc_50, hQ_50, l_50, y_50, z_50⟩, st_50⟩ := Jvm.LawKit.callS X_47 hx (y := (⟨"com/example/kworum/kworum/model/EntryEqualsPinLaw", "s", "(C)Ljava/lang/String;"⟩ : MethodName)) hown (mvT hZ (own_w hw 8 rfl)) (mvT hZ (own_w hw 9 rfl)) (mvT hZ (own_w hw 2 rfl)) (mvT hZ (own_w hw 10 rfl)) (by decide) (backOf (W := 6) (rms l Z a0 hw [] c4 cs T_47.heap n0 (Nat.le_trans Z0 K_49.1) (O0.keep K_49 all0) Scs hcs q_5_0) hZ (own_w hw 10 rfl) (own_w hw 2 rfl) (by decide) (by decide)) (g := (mkF m 158 #[.val (.long q1), .second, .val (.long q2), .second, .val (.int p3), .val (.int p4), .val (.int c0), .val (.int c1), .val (.int c2), .val (.int c3), .val (.int c4), .val (.int d0), .val (.int d1), .val (.int d2), .val (.int d3), .val (.int d4), .unset, .unset, .unset, .unset] [(.int c4), (.ref r_48), (.ref r_45), (.ref r_42), (.ref r_39), (.ref b_31), (.ref b_31)])) rfl (by rw [hml]; rfl) (argsL := [(.int c4)]) (rest := [(.ref r_48), (.ref r_45), (.ref r_42), (.ref r_39), (.ref b_31), (.ref b_31)]) (lenOf pd_5 rfl) rfl (by show 2 * 0 + _ ≤ _; exact Nat.le_of_eq rfl) (hb hby at_158) (fun _ _ => ⟨rfl, rfl, (by decide : 13 + 3 ≤ _), (by decide : 29 + 6 ≤ _)⟩)
            dsimp only [Pt.U, Pt.locs, Pt.cells, Pt.slots] at X_50 l_50 y_50 z_50 st_50 hQ_50
            subst l_50 y_50 z_50
            obtain ⟨r_51, rfl, Nq_50, K_50q, q_50_0, q_50_1, q_50_2⟩ := hQ_50
            have N_50 := Fr.app N_47 Nq_50
            refine own_via st_50 ?_
            show own_Go p e below _ (T_50.setTop (mkF m 161 #[.val (.long q1), .second, .val (.long q2), .second, .val (.int p3), .val (.int p4), .val (.int c0), .val (.int c1), .val (.int c2), .val (.int c3), .val (.int c4), .val (.int d0), .val (.int d1), .val (.int d2), .val (.int d3), .val (.int d4), .unset, .unset, .unset, .unset] [(.ref r_51), (.ref r_48), (.ref r_45), (.ref r_42), (.ref r_39), (.ref b_31), (.ref b_31)]))
            have K_52 : Keep h_31 T_38.heap [] := Keep.trans (ws := []) (Keep.refl h_31 []) K_38q all0
            have K_53 : Keep h_31 T_41.heap [] := Keep.trans (ws := []) K_52 K_41q all0
            have K_54 : Keep h_31 T_44.heap [] := Keep.trans (ws := []) K_53 K_44q all0
            have K_55 : Keep h_31 T_47.heap [] := Keep.trans (ws := []) K_54 K_47q all0
            have K_56 : Keep h_31 T_50.heap [] := Keep.trans (ws := []) K_55 K_50q all0
            have K_57 : Keep h0 T_50.heap [] := Keep.trans (ws := []) K_49 K_50q all0
            obtain ⟨_, _, ⟨T_58, L_58, k_58, n_58⟩, -, X_58, ⟨Lc_58, hQ_58, l_58, y_58, z_58⟩, st_58⟩ := X_50.specialBack hx (y := (⟨"com/example/kworum/kworum/model/Entry", "<init>", "(Ljava/lang/String;Ljava/lang/String;Ljava/lang/String;Ljava/lang/String;Ljava/lang/String;)V"⟩ : MethodName)) rfl hown (mvT hZ (own_w hw 41 rfl)) (mvT hZ (own_w hw 42 rfl)) (mvT hZ (own_w hw 43 rfl)) (by decide) (backOf (W := 1) (rmentry l Z a0 hw [] b_31 r_39 r_42 r_45 r_48 r_51 T_50.heap n0 (Nat.le_trans Z0 K_57.1) (A_31.keep K_56) (F_32.keep K_56 nin0) (F_33.keep K_56 nin0) (F_34.keep K_56 nin0) (F_35.keep K_56 nin0) (F_36.keep K_56 nin0) (Nat.le_trans Z0 (Nat.le_of_eq g_31.symm))) hZ (own_w hw 43 rfl) (own_w hw 7 rfl) (by decide) (by decide)) (g := (mkF m 161 #[.val (.long q1), .second, .val (.long q2), .second, .val (.int p3), .val (.int p4), .val (.int c0), .val (.int c1), .val (.int c2), .val (.int c3), .val (.int c4), .val (.int d0), .val (.int d1), .val (.int d2), .val (.int d3), .val (.int d4), .unset, .unset, .unset, .unset] [(.ref r_51), (.ref r_48), (.ref r_45), (.ref r_42), (.ref r_39), (.ref b_31), (.ref b_31)])) rfl (by rw [hml]; rfl) (Steps.refl _) (a := b_31) (argsL := [(.ref r_39), (.ref r_42), (.ref r_45), (.ref r_48), (.ref r_51)]) (rest := [(.ref b_31)]) (lenOf pd_6 rfl) rfl (by show 2 * 0 + _ ≤ _; exact Nat.le_of_eq rfl) (hb hby at_161) (fun _ _ => ⟨rfl, rfl, (by decide : 16 + 0 ≤ _), (by decide : 35 + 0 ≤ _)⟩)
            dsimp only [Pt.U, Pt.locs, Pt.cells, Pt.slots] at X_58 l_58 y_58 z_58 st_58 hQ_58
            subst l_58 y_58 z_58
            obtain ⟨rfl, Nq_58, K_58q, q_58_0, q_58_1, q_58_2, q_58_3, q_58_4⟩ := hQ_58
            have N_58 := Fr.app N_50 Nq_58
            refine own_via (fun _ k => st_58.trans k) ?_
            show own_Go p e below _ (T_58.setTop (mkF m 164 #[.val (.long q1), .second, .val (.long q2), .second, .val (.int p3), .val (.int p4), .val (.int c0), .val (.int c1), .val (.int c2), .val (.int c3), .val (.int c4), .val (.int d0), .val (.int d1), .val (.int d2), .val (.int d3), .val (.int d4), .unset, .unset, .unset, .unset] [(.ref b_31)]))
            refine own_via (fun _ => XS.astore X_58.here hx rfl (hb hby at_164) rfl rfl (l' := #[.val (.long q1), .second, .val (.long q2), .second, .val (.int p3), .val (.int p4), .val (.int c0), .val (.int c1), .val (.int c2), .val (.int c3), .val (.int c4), .val (.int d0), .val (.int d1), .val (.int d2), .val (.int d3), .val (.int d4), .val (.ref b_31), .unset, .unset, .unset]) rfl) ?_
            show own_Go p e below _ (T_58.setTop (mkF m 166 #[.val (.long q1), .second, .val (.long q2), .second, .val (.int p3), .val (.int p4), .val (.int c0), .val (.int c1), .val (.int c2), .val (.int c3), .val (.int c4), .val (.int d0), .val (.int d1), .val (.int d2), .val (.int d3), .val (.int d4), .val (.ref b_31), .unset, .unset, .unset] []))
            refine own_via (fun _ => XS.iload X_58.here hx rfl (hb hby at_166) rfl) ?_
            show own_Go p e below _ (T_58.setTop (mkF m 168 #[.val (.long q1), .second, .val (.long q2), .second, .val (.int p3), .val (.int p4), .val (.int c0), .val (.int c1), .val (.int c2), .val (.int c3), .val (.int c4), .val (.int d0), .val (.int d1), .val (.int d2), .val (.int d3), .val (.int d4), .val (.ref b_31), .unset, .unset, .unset] [(.int p4)]))
            refine own_via (fun _ => XS.iconst X_58.here hx rfl (hb hby at_168)) ?_
            show own_Go p e below _ (T_58.setTop (mkF m 169 #[.val (.long q1), .second, .val (.long q2), .second, .val (.int p3), .val (.int p4), .val (.int c0), .val (.int c1), .val (.int c2), .val (.int c3), .val (.int c4), .val (.int d0), .val (.int d1), .val (.int d2), .val (.int d3), .val (.int d4), .val (.ref b_31), .unset, .unset, .unset] [(.int (3 : Int32)), (.int p4)]))
            refine own_via (fun _ => XS.iand X_58.here hx rfl (hb hby at_169) rfl) ?_
            show own_Go p e below _ (T_58.setTop (mkF m 170 #[.val (.long q1), .second, .val (.long q2), .second, .val (.int p3), .val (.int p4), .val (.int c0), .val (.int c1), .val (.int c2), .val (.int c3), .val (.int c4), .val (.int d0), .val (.int d1), .val (.int d2), .val (.int d3), .val (.int d4), .val (.ref b_31), .unset, .unset, .unset] [(.int (p4 &&& (3 : Int32)))]))
            refine own_via (fun _ => XS.istore X_58.here hx rfl (hb hby at_170) rfl (l' := #[.val (.long q1), .second, .val (.long q2), .second, .val (.int p3), .val (.int p4), .val (.int c0), .val (.int c1), .val (.int c2), .val (.int c3), .val (.int c4), .val (.int d0), .val (.int d1), .val (.int d2), .val (.int d3), .val (.int d4), .val (.ref b_31), .val (.int (p4 &&& (3 : Int32))), .unset, .unset]) rfl) ?_
            show own_Go p e below _ (T_58.setTop (mkF m 172 #[.val (.long q1), .second, .val (.long q2), .second, .val (.int p3), .val (.int p4), .val (.int c0), .val (.int c1), .val (.int c2), .val (.int c3), .val (.int c4), .val (.int d0), .val (.int d1), .val (.int d2), .val (.int d3), .val (.int d4), .val (.ref b_31), .val (.int (p4 &&& (3 : Int32))), .unset, .unset] []))
            refine own_via (fun _ => XS.iload X_58.here hx rfl (hb hby at_172) rfl) ?_
            show own_Go p e below _ (T_58.setTop (mkF m 174 #[.val (.long q1), .second, .val (.long q2), .second, .val (.int p3), .val (.int p4), .val (.int c0), .val (.int c1), .val (.int c2), .val (.int c3), .val (.int c4), .val (.int d0), .val (.int d1), .val (.int d2), .val (.int d3), .val (.int d4), .val (.ref b_31), .val (.int (p4 &&& (3 : Int32))), .unset, .unset] [(.int (p4 &&& (3 : Int32)))]))
            refine own_via (fun _ => XS.iconst X_58.here hx rfl (hb hby at_174)) ?_
            show own_Go p e below _ (T_58.setTop (mkF m 175 #[.val (.long q1), .second, .val (.long q2), .second, .val (.int p3), .val (.int p4), .val (.int c0), .val (.int c1), .val (.int c2), .val (.int c3), .val (.int c4), .val (.int d0), .val (.int d1), .val (.int d2), .val (.int d3), .val (.int d4), .val (.ref b_31), .val (.int (p4 &&& (3 : Int32))), .unset, .unset] [(.int (2 : Int32)), (.int (p4 &&& (3 : Int32)))]))
            by_cases hk2 : (p4 &&& (3 : Int32)) = (2 : Int32)
            · refine own_via (fun _ => XS.icmpNo X_58.here hx rfl (hb hby at_175) rfl (teq (hk2 : (p4 &&& (3 : Int32)) = (2 : Int32))).2) ?_
              show own_Go p e below _ (T_58.setTop (mkF m 178 #[.val (.long q1), .second, .val (.long q2), .second, .val (.int p3), .val (.int p4), .val (.int c0), .val (.int c1), .val (.int c2), .val (.int c3), .val (.int c4), .val (.int d0), .val (.int d1), .val (.int d2), .val (.int d3), .val (.int d4), .val (.ref b_31), .val (.int (p4 &&& (3 : Int32))), .unset, .unset] []))
              refine own_via (fun _ => XS.aload X_58.here hx rfl (hb hby at_178) rfl rfl) ?_
              show own_Go p e below _ (T_58.setTop (mkF m 180 #[.val (.long q1), .second, .val (.long q2), .second, .val (.int p3), .val (.int p4), .val (.int c0), .val (.int c1), .val (.int c2), .val (.int c3), .val (.int c4), .val (.int d0), .val (.int d1), .val (.int d2), .val (.int d3), .val (.int d4), .val (.ref b_31), .val (.int (p4 &&& (3 : Int32))), .unset, .unset] [(.ref b_31)]))
              refine own_via (fun _ => XS.aconstNull X_58.here hx rfl (hb hby at_180)) ?_
              show own_Go p e below _ (T_58.setTop (mkF m 181 #[.val (.long q1), .second, .val (.long q2), .second, .val (.int p3), .val (.int p4), .val (.int c0), .val (.int c1), .val (.int c2), .val (.int c3), .val (.int c4), .val (.int d0), .val (.int d1), .val (.int d2), .val (.int d3), .val (.int d4), .val (.ref b_31), .val (.int (p4 &&& (3 : Int32))), .unset, .unset] [.null, (.ref b_31)]))
              have K_59 : Keep h0 T_58.heap [] := Keep.trans (ws := []) K_57 K_58q (allS (Or.inr (Nat.le_of_eq g_31.symm)) all0)
              have K_61 : Keep h_31 T_58.heap [b_31] := Keep.trans (ws := [b_31]) (own_keep_mono K_56 (by simp)) K_58q (allS (Or.inl (List.mem_of_getElem? (i := 0) rfl)) all0)
              obtain ⟨cq_60, kq_60, q_60a, q_60b, q_60c⟩ := isOf hZ rfl (A_31.keep K_61)
              obtain ⟨_, _, ⟨T_60, L_60, k_60, n_60⟩, -, X_60, ⟨Lc_60, hQ_60, l_60, y_60, z_60⟩, st_60⟩ := X_58.virtualBack hx (y := (⟨"com/example/kworum/kworum/model/Entry", "equals", "(Ljava/lang/Object;)Z"⟩ : MethodName)) (z := (⟨"com/example/kworum/kworum/model/Entry", "equals", "(Ljava/lang/Object;)Z"⟩ : MethodName)) hown (mvT hZ (own_w hw 75 rfl)) (mvT hZ (own_w hw 76 rfl)) (notFace_of_selects (args := #[]) (mvT hZ (own_w hw 78 rfl))) (mvT hZ (own_w hw 78 rfl)) (mvT hZ (own_w hw 77 rfl)) (by decide) (backOf (W := 0) (rmeqN l Z a0 hw [] b_31 T_58.heap n0 (Nat.le_trans Z0 K_59.1) ) hZ (own_w hw 79 rfl) (own_w hw 7 rfl) (by decide) (by decide)) q_60a q_60c (g := (mkF m 181 #[.val (.long q1), .second, .val (.long q2), .second, .val (.int p3), .val (.int p4), .val (.int c0), .val (.int c1), .val (.int c2), .val (.int c3), .val (.int c4), .val (.int d0), .val (.int d1), .val (.int d2), .val (.int d3), .val (.int d4), .val (.ref b_31), .val (.int (p4 &&& (3 : Int32))), .unset, .unset] [.null, (.ref b_31)])) rfl (by rw [hml]; rfl) (Steps.refl _) (argsL := [.null]) (rest := []) (lenOf pd_3 rfl) rfl (by show 2 * 0 + _ ≤ _; exact Nat.le_of_eq rfl) (hb hby at_181) (fun _ _ => ⟨rfl, rfl, (by decide : 16 + 0 ≤ _), (by decide : 35 + 0 ≤ _)⟩)
              dsimp only [Pt.U, Pt.locs, Pt.cells, Pt.slots] at X_60 l_60 y_60 z_60 st_60 hQ_60
              subst l_60 y_60 z_60
              obtain ⟨rfl, Nq_60, e_60⟩ := hQ_60
              have N_60 := Fr.app N_58 Nq_60
              refine own_via (fun _ k => st_60.trans k) ?_
              show own_Go p e below _ (T_60.setTop (mkF m 184 #[.val (.long q1), .second, .val (.long q2), .second, .val (.int p3), .val (.int p4), .val (.int c0), .val (.int c1), .val (.int c2), .val (.int c3), .val (.int c4), .val (.int d0), .val (.int d1), .val (.int d2), .val (.int d3), .val (.int d4), .val (.ref b_31), .val (.int (p4 &&& (3 : Int32))), .unset, .unset] [(.int (0 : Int32))]))
              refine own_via (fun _ => XS.ifNo X_60.here hx rfl (hb hby at_184) rfl ((if0 _ _).trans (teq ((by decide) : (0 : Int32) = (0 : Int32))).2)) ?_
              show own_Go p e below _ (T_60.setTop (mkF m 187 #[.val (.long q1), .second, .val (.long q2), .second, .val (.int p3), .val (.int p4), .val (.int c0), .val (.int c1), .val (.int c2), .val (.int c3), .val (.int c4), .val (.int d0), .val (.int d1), .val (.int d2), .val (.int d3), .val (.int d4), .val (.ref b_31), .val (.int (p4 &&& (3 : Int32))), .unset, .unset] []))
              refine own_via (fun _ => XS.iconst X_60.here hx rfl (hb hby at_187)) ?_
              show own_Go p e below _ (T_60.setTop (mkF m 188 #[.val (.long q1), .second, .val (.long q2), .second, .val (.int p3), .val (.int p4), .val (.int c0), .val (.int c1), .val (.int c2), .val (.int c3), .val (.int c4), .val (.int d0), .val (.int d1), .val (.int d2), .val (.int d3), .val (.int d4), .val (.ref b_31), .val (.int (p4 &&& (3 : Int32))), .unset, .unset] [(.int (1 : Int32))]))
              refine own_via (fun _ => XS.goto X_60.here hx rfl (pc0 := 188) (pc' := 192) rfl (hb hby at_188) (by decide) (by decide)) ?_
              show own_Go p e below _ (T_60.setTop (mkF m 192 #[.val (.long q1), .second, .val (.long q2), .second, .val (.int p3), .val (.int p4), .val (.int c0), .val (.int c1), .val (.int c2), .val (.int c3), .val (.int c4), .val (.int d0), .val (.int d1), .val (.int d2), .val (.int d3), .val (.int d4), .val (.ref b_31), .val (.int (p4 &&& (3 : Int32))), .unset, .unset] [(.int (1 : Int32))]))
              exact own_retv X_60 Bd.notSynchronized hx Bd.returns rfl (Or.inl ⟨rfl, (by simp), _, rfl⟩) (hb hby at_192) (by decide) (by decide) (by rw [e_60]; exact ⟨rfl, N_60, K_59⟩)
            · refine own_via (fun _ => XS.icmpYes X_58.here hx rfl (pc0 := 175) (pc' := 193) rfl (hb hby at_175) rfl (feq (hk2 : ¬ ((p4 &&& (3 : Int32)) = (2 : Int32)))).2 (by decide) (by decide)) ?_
              show own_Go p e below _ (T_58.setTop (mkF m 193 #[.val (.long q1), .second, .val (.long q2), .second, .val (.int p3), .val (.int p4), .val (.int c0), .val (.int c1), .val (.int c2), .val (.int c3), .val (.int c4), .val (.int d0), .val (.int d1), .val (.int d2), .val (.int d3), .val (.int d4), .val (.ref b_31), .val (.int (p4 &&& (3 : Int32))), .unset, .unset] []))
              refine own_via (fun _ => XS.iload X_58.here hx rfl (hb hby at_193) rfl) ?_
              show own_Go p e below _ (T_58.setTop (mkF m 195 #[.val (.long q1), .second, .val (.long q2), .second, .val (.int p3), .val (.int p4), .val (.int c0), .val (.int c1), .val (.int c2), .val (.int c3), .val (.int c4), .val (.int d0), .val (.int d1), .val (.int d2), .val (.int d3), .val (.int d4), .val (.ref b_31), .val (.int (p4 &&& (3 : Int32))), .unset, .unset] [(.int (p4 &&& (3 : Int32)))]))
              refine own_via (fun _ => XS.iconst X_58.here hx rfl (hb hby at_195)) ?_
              show own_Go p e below _ (T_58.setTop (mkF m 196 #[.val (.long q1), .second, .val (.long q2), .second, .val (.int p3), .val (.int p4), .val (.int c0), .val (.int c1), .val (.int c2), .val (.int c3), .val (.int c4), .val (.int d0), .val (.int d1), .val (.int d2), .val (.int d3), .val (.int d4), .val (.ref b_31), .val (.int (p4 &&& (3 : Int32))), .unset, .unset] [(.int (3 : Int32)), (.int (p4 &&& (3 : Int32)))]))
              by_cases hk3 : (p4 &&& (3 : Int32)) = (3 : Int32)
              · refine own_via (fun _ => XS.icmpNo X_58.here hx rfl (hb hby at_196) rfl (teq (hk3 : (p4 &&& (3 : Int32)) = (3 : Int32))).2) ?_
                show own_Go p e below _ (T_58.setTop (mkF m 199 #[.val (.long q1), .second, .val (.long q2), .second, .val (.int p3), .val (.int p4), .val (.int c0), .val (.int c1), .val (.int c2), .val (.int c3), .val (.int c4), .val (.int d0), .val (.int d1), .val (.int d2), .val (.int d3), .val (.int d4), .val (.ref b_31), .val (.int (p4 &&& (3 : Int32))), .unset, .unset] []))
                obtain ⟨T_62, h_62, X_62, e_62, E_62, A_62, D_62, -, st_62⟩ := newO X_58 hx hZ hown (own_w hw 55 rfl) (own_w hw 56 rfl) (own_w hw 57 rfl) rfl (g := (mkF m 199 #[.val (.long q1), .second, .val (.long q2), .second, .val (.int p3), .val (.int p4), .val (.int c0), .val (.int c1), .val (.int c2), .val (.int c3), .val (.int c4), .val (.int d0), .val (.int d1), .val (.int d2), .val (.int d3), .val (.int d4), .val (.ref b_31), .val (.int (p4 &&& (3 : Int32))), .unset, .unset] [])) rfl (hb hby at_199) (by decide) (by decide)
                obtain ⟨b_62, g_62⟩ : ∃ z, z = T_58.heap.size := ⟨_, rfl⟩
                rw [← g_62] at A_62 D_62 st_62
                have F_63 : Fld Z h_62 b_62 "com/example/kworum/kworum/model/EntryKey" "role" "Ljava/lang/String;" .null := D_62 (Or.inr (own_w hw 68 rfl)) (ty := (.object "java/lang/String")) (by decide)
                have F_64 : Fld Z h_62 b_62 "com/example/kworum/kworum/model/EntryKey" "type" "Ljava/lang/String;" .null := D_62 (Or.inr (own_w hw 70 rfl)) (ty := (.object "java/lang/String")) (by decide)
                have F_65 : Fld Z h_62 b_62 "com/example/kworum/kworum/model/EntryKey" "right" "Ljava/lang/String;" .null := D_62 (Or.inr (own_w hw 72 rfl)) (ty := (.object "java/lang/String")) (by decide)
                have F_66 : Fld Z h_62 b_62 "com/example/kworum/kworum/model/EntryKey" "target" "Ljava/lang/String;" .null := D_62 (Or.inr (own_w hw 74 rfl)) (ty := (.object "java/lang/String")) (by decide)
                refine own_via st_62 ?_
                show own_Go p e below _ (T_62.setTop (mkF m 202 #[.val (.long q1), .second, .val (.long q2), .second, .val (.int p3), .val (.int p4), .val (.int c0), .val (.int c1), .val (.int c2), .val (.int c3), .val (.int c4), .val (.int d0), .val (.int d1), .val (.int d2), .val (.int d3), .val (.int d4), .val (.ref b_31), .val (.int (p4 &&& (3 : Int32))), .unset, .unset] [(.ref b_62)]))
                refine own_via (fun _ => XS.dup X_62.here hx rfl (hb hby at_202) rfl rfl) ?_
                show own_Go p e below _ (T_62.setTop (mkF m 203 #[.val (.long q1), .second, .val (.long q2), .second, .val (.int p3), .val (.int p4), .val (.int c0), .val (.int c1), .val (.int c2), .val (.int c3), .val (.int c4), .val (.int d0), .val (.int d1), .val (.int d2), .val (.int d3), .val (.int d4), .val (.ref b_31), .val (.int (p4 &&& (3 : Int32))), .unset, .unset] [(.ref b_62), (.ref b_62)]))
                refine own_via (fun _ => XS.iload X_62.here hx rfl (hb hby at_203) rfl) ?_
                show own_Go p e below _ (T_62.setTop (mkF m 205 #[.val (.long q1), .second, .val (.long q2), .second, .val (.int p3), .val (.int p4), .val (.int c0), .val (.int c1), .val (.int c2), .val (.int c3), .val (.int c4), .val (.int d0), .val (.int d1), .val (.int d2), .val (.int d3), .val (.int d4), .val (.ref b_31), .val (.int (p4 &&& (3 : Int32))), .unset, .unset] [(.int c0), (.ref b_62), (.ref b_62)]))
                have K_67 : Keep h0 T_58.heap [] := Keep.trans (ws := []) K_57 K_58q (allS (Or.inr (Nat.le_of_eq g_31.symm)) all0)
                have K_68 : Keep h0 h_62 [] := K_67.ext E_62
                obtain ⟨_, _, ⟨T_69, L_69, k_69, n_69⟩, -, X_69, ⟨Lc_69, hQ_69, l_69, y_69, z_69⟩, st_69⟩ := Jvm.LawKit.callS X_62 hx (y := (⟨"com/example/kworum/kworum/model/EntryEqualsPinLaw", "s", "(C)Ljava/lang/String;"⟩ : MethodName)) hown (mvT hZ (own_w hw 8 rfl)) (mvT hZ (own_w hw 9 rfl)) (mvT hZ (own_w hw 2 rfl)) (mvT hZ (own_w hw 10 rfl)) (by decide) (backOf (W := 2) (rms l Z a0 hw [] c0 cs h_62 n0 (Nat.le_trans Z0 K_68.1) (O0.keep K_68 all0) Scs hcs q_1_0) hZ (own_w hw 10 rfl) (own_w hw 2 rfl) (by decide) (by decide)) (g := (mkF m 205 #[.val (.long q1), .second, .val (.long q2), .second, .val (.int p3), .val (.int p4), .val (.int c0), .val (.int c1), .val (.int c2), .val (.int c3), .val (.int c4), .val (.int d0), .val (.int d1), .val (.int d2), .val (.int d3), .val (.int d4), .val (.ref b_31), .val (.int (p4 &&& (3 : Int32))), .unset, .unset] [(.int c0), (.ref b_62), (.ref b_62)])) rfl (by rw [hml]; rfl) (argsL := [(.int c0)]) (rest := [(.ref b_62), (.ref b_62)]) (lenOf pd_5 rfl) rfl (by show 2 * 0 + _ ≤ _; exact Nat.le_of_eq rfl) (hb hby at_205) (fun _ _ => ⟨rfl, e_62, (by decide : 17 + 3 ≤ _), (by decide : 39 + 6 ≤ _)⟩)
                dsimp only [Pt.U, Pt.locs, Pt.cells, Pt.slots] at X_69 l_69 y_69 z_69 st_69 hQ_69
                subst l_69 y_69 z_69
                obtain ⟨r_70, rfl, Nq_69, K_69q, q_69_0, q_69_1, q_69_2⟩ := hQ_69
                have N_69 := Fr.app N_58 Nq_69
                refine own_via st_69 ?_
                show own_Go p e below _ (T_69.setTop (mkF m 208 #[.val (.long q1), .second, .val (.long q2), .second, .val (.int p3), .val (.int p4), .val (.int c0), .val (.int c1), .val (.int c2), .val (.int c3), .val (.int c4), .val (.int d0), .val (.int d1), .val (.int d2), .val (.int d3), .val (.int d4), .val (.ref b_31), .val (.int (p4 &&& (3 : Int32))), .unset, .unset] [(.ref r_70), (.ref b_62), (.ref b_62)]))
                refine own_via (fun _ => XS.iload X_69.here hx rfl (hb hby at_208) rfl) ?_
                show own_Go p e below _ (T_69.setTop (mkF m 210 #[.val (.long q1), .second, .val (.long q2), .second, .val (.int p3), .val (.int p4), .val (.int c0), .val (.int c1), .val (.int c2), .val (.int c3), .val (.int c4), .val (.int d0), .val (.int d1), .val (.int d2), .val (.int d3), .val (.int d4), .val (.ref b_31), .val (.int (p4 &&& (3 : Int32))), .unset, .unset] [(.int c1), (.ref r_70), (.ref b_62), (.ref b_62)]))
                have K_71 : Keep h0 T_69.heap [] := Keep.trans (ws := []) K_68 K_69q all0
                obtain ⟨_, _, ⟨T_72, L_72, k_72, n_72⟩, -, X_72, ⟨Lc_72, hQ_72, l_72, y_72, z_72⟩, st_72⟩ := Jvm.LawKit.callS X_69 hx (y := (⟨"com/example/kworum/kworum/model/EntryEqualsPinLaw", "s", "(C)Ljava/lang/String;"⟩ : MethodName)) hown (mvT hZ (own_w hw 8 rfl)) (mvT hZ (own_w hw 9 rfl)) (mvT hZ (own_w hw 2 rfl)) (mvT hZ (own_w hw 10 rfl)) (by decide) (backOf (W := 3) (rms l Z a0 hw [] c1 cs T_69.heap n0 (Nat.le_trans Z0 K_71.1) (O0.keep K_71 all0) Scs hcs q_2_0) hZ (own_w hw 10 rfl) (own_w hw 2 rfl) (by decide) (by decide)) (g := (mkF m 210 #[.val (.long q1), .second, .val (.long q2), .second, .val (.int p3), .val (.int p4), .val (.int c0), .val (.int c1), .val (.int c2), .val (.int c3), .val (.int c4), .val (.int d0), .val (.int d1), .val (.int d2), .val (.int d3), .val (.int d4), .val (.ref b_31), .val (.int (p4 &&& (3 : Int32))), .unset, .unset] [(.int c1), (.ref r_70), (.ref b_62), (.ref b_62)])) rfl (by rw [hml]; rfl) (argsL := [(.int c1)]) (rest := [(.ref r_70), (.ref b_62), (.ref b_62)]) (lenOf pd_5 rfl) rfl (by show 2 * 0 + _ ≤ _; exact Nat.le_of_eq rfl) (hb hby at_210) (fun _ _ => ⟨rfl, rfl, (by decide : 20 + 3 ≤ _), (by decide : 45 + 6 ≤ _)⟩)
                dsimp only [Pt.U, Pt.locs, Pt.cells, Pt.slots] at X_72 l_72 y_72 z_72 st_72 hQ_72
                subst l_72 y_72 z_72
                obtain ⟨r_73, rfl, Nq_72, K_72q, q_72_0, q_72_1, q_72_2⟩ := hQ_72
                have N_72 := Fr.app N_69 Nq_72
                refine own_via st_72 ?_
                show own_Go p e below _ (T_72.setTop (mkF m 213 #[.val (.long q1), .second, .val (.long q2), .second, .val (.int p3), .val (.int p4), .val (.int c0), .val (.int c1), .val (.int c2), .val (.int c3), .val (.int c4), .val (.int d0), .val (.int d1), .val (.int d2), .val (.int d3), .val (.int d4), .val (.ref b_31), .val (.int (p4 &&& (3 : Int32))), .unset, .unset] [(.ref r_73), (.ref r_70), (.ref b_62), (.ref b_62)]))
                refine own_via (fun _ => XS.iload X_72.here hx rfl (hb hby at_213) rfl) ?_
                show own_Go p e below _ (T_72.setTop (mkF m 215 #[.val (.long q1), .second, .val (.long q2), .second, .val (.int p3), .val (.int p4), .val (.int c0), .val (.int c1), .val (.int c2), .val (.int c3), .val (.int c4), .val (.int d0), .val (.int d1), .val (.int d2), .val (.int d3), .val (.int d4), .val (.ref b_31), .val (.int (p4 &&& (3 : Int32))), .unset, .unset] [(.int c2), (.ref r_73), (.ref r_70), (.ref b_62), (.ref b_62)]))
                have K_74 : Keep h0 T_72.heap [] := Keep.trans (ws := []) K_71 K_72q all0
                obtain ⟨_, _, ⟨T_75, L_75, k_75, n_75⟩, -, X_75, ⟨Lc_75, hQ_75, l_75, y_75, z_75⟩, st_75⟩ := Jvm.LawKit.callS X_72 hx (y := (⟨"com/example/kworum/kworum/model/EntryEqualsPinLaw", "s", "(C)Ljava/lang/String;"⟩ : MethodName)) hown (mvT hZ (own_w hw 8 rfl)) (mvT hZ (own_w hw 9 rfl)) (mvT hZ (own_w hw 2 rfl)) (mvT hZ (own_w hw 10 rfl)) (by decide) (backOf (W := 4) (rms l Z a0 hw [] c2 cs T_72.heap n0 (Nat.le_trans Z0 K_74.1) (O0.keep K_74 all0) Scs hcs q_3_0) hZ (own_w hw 10 rfl) (own_w hw 2 rfl) (by decide) (by decide)) (g := (mkF m 215 #[.val (.long q1), .second, .val (.long q2), .second, .val (.int p3), .val (.int p4), .val (.int c0), .val (.int c1), .val (.int c2), .val (.int c3), .val (.int c4), .val (.int d0), .val (.int d1), .val (.int d2), .val (.int d3), .val (.int d4), .val (.ref b_31), .val (.int (p4 &&& (3 : Int32))), .unset, .unset] [(.int c2), (.ref r_73), (.ref r_70), (.ref b_62), (.ref b_62)])) rfl (by rw [hml]; rfl) (argsL := [(.int c2)]) (rest := [(.ref r_73), (.ref r_70), (.ref b_62), (.ref b_62)]) (lenOf pd_5 rfl) rfl (by show 2 * 0 + _ ≤ _; exact Nat.le_of_eq rfl) (hb hby at_215) (fun _ _ => ⟨rfl, rfl, (by decide : 23 + 3 ≤ _), (by decide : 51 + 6 ≤ _)⟩)
                dsimp only [Pt.U, Pt.locs, Pt.cells, Pt.slots] at X_75 l_75 y_75 z_75 st_75 hQ_75
                subst l_75 y_75 z_75
                obtain ⟨r_76, rfl, Nq_75, K_75q, q_75_0, q_75_1, q_75_2⟩ := hQ_75
                have N_75 := Fr.app N_72 Nq_75
                refine own_via st_75 ?_
                show own_Go p e below _ (T_75.setTop (mkF m 218 #[.val (.long q1), .second, .val (.long q2), .second, .val (.int p3), .val (.int p4), .val (.int c0), .val (.int c1), .val (.int c2), .val (.int c3), .val (.int c4), .val (.int d0), .val (.int d1), .val (.int d2), .val (.int d3), .val (.int d4), .val (.ref b_31), .val (.int (p4 &&& (3 : Int32))), .unset, .unset] [(.ref r_76), (.ref r_73), (.ref r_70), (.ref b_62), (.ref b_62)]))
                refine own_via (fun _ => XS.iload X_75.here hx rfl (hb hby at_218) rfl) ?_
                show own_Go p e below _ (T_75.setTop (mkF m 220 #[.val (.long q1), .second, .val (.long q2), .second, .val (.int p3), .val (.int p4), .val (.int c0), .val (.int c1), .val (.int c2), .val (.int c3), .val (.int c4), .val (.int d0), .val (.int d1), .val (.int d2), .val (.int d3), .val (.int d4), .val (.ref b_31), .val (.int (p4 &&& (3 : Int32))), .unset, .unset] [(.int c3), (.ref r_76), (.ref r_73), (.ref r_70), (.ref b_62), (.ref b_62)]))
                have K_77 : Keep h0 T_75.heap [] := Keep.trans (ws := []) K_74 K_75q all0
                obtain ⟨_, _, ⟨T_78, L_78, k_78, n_78⟩, -, X_78, ⟨Lc_78, hQ_78, l_78, y_78, z_78⟩, st_78⟩ := Jvm.LawKit.callS X_75 hx (y := (⟨"com/example/kworum/kworum/model/EntryEqualsPinLaw", "s", "(C)Ljava/lang/String;"⟩ : MethodName)) hown (mvT hZ (own_w hw 8 rfl)) (mvT hZ (own_w hw 9 rfl)) (mvT hZ (own_w hw 2 rfl)) (mvT hZ (own_w hw 10 rfl)) (by decide) (backOf (W := 5) (rms l Z a0 hw [] c3 cs T_75.heap n0 (Nat.le_trans Z0 K_77.1) (O0.keep K_77 all0) Scs hcs q_4_0) hZ (own_w hw 10 rfl) (own_w hw 2 rfl) (by decide) (by decide)) (g := (mkF m 220 #[.val (.long q1), .second, .val (.long q2), .second, .val (.int p3), .val (.int p4), .val (.int c0), .val (.int c1), .val (.int c2), .val (.int c3), .val (.int c4), .val (.int d0), .val (.int d1), .val (.int d2), .val (.int d3), .val (.int d4), .val (.ref b_31), .val (.int (p4 &&& (3 : Int32))), .unset, .unset] [(.int c3), (.ref r_76), (.ref r_73), (.ref r_70), (.ref b_62), (.ref b_62)])) rfl (by rw [hml]; rfl) (argsL := [(.int c3)]) (rest := [(.ref r_76), (.ref r_73), (.ref r_70), (.ref b_62), (.ref b_62)]) (lenOf pd_5 rfl) rfl (by show 2 * 0 + _ ≤ _; exact Nat.le_of_eq rfl) (hb hby at_220) (fun _ _ => ⟨rfl, rfl, (by decide : 26 + 3 ≤ _), (by decide : 57 + 6 ≤ _)⟩)
                dsimp only [Pt.U, Pt.locs, Pt.cells, Pt.slots] at X_78 l_78 y_78 z_78 st_78 hQ_78
                subst l_78 y_78 z_78
                obtain ⟨r_79, rfl, Nq_78, K_78q, q_78_0, q_78_1, q_78_2⟩ := hQ_78
                have N_78 := Fr.app N_75 Nq_78
                refine own_via st_78 ?_
                show own_Go p e below _ (T_78.setTop (mkF m 223 #[.val (.long q1), .second, .val (.long q2), .second, .val (.int p3), .val (.int p4), .val (.int c0), .val (.int c1), .val (.int c2), .val (.int c3), .val (.int c4), .val (.int d0), .val (.int d1), .val (.int d2), .val (.int d3), .val (.int d4), .val (.ref b_31), .val (.int (p4 &&& (3 : Int32))), .unset, .unset] [(.ref r_79), (.ref r_76), (.ref r_73), (.ref r_70), (.ref b_62), (.ref b_62)]))
                have K_80 : Keep h_62 T_69.heap [] := Keep.trans (ws := []) (Keep.refl h_62 []) K_69q all0
                have K_81 : Keep h_62 T_72.heap [] := Keep.trans (ws := []) K_80 K_72q all0
                have K_82 : Keep h_62 T_75.heap [] := Keep.trans (ws := []) K_81 K_75q all0
                have K_83 : Keep h_62 T_78.heap [] := Keep.trans (ws := []) K_82 K_78q all0
                have K_84 : Keep T_69.heap T_72.heap [] := Keep.trans (ws := []) (Keep.refl T_69.heap []) K_72q all0
                have K_85 : Keep T_69.heap T_75.heap [] := Keep.trans (ws := []) K_84 K_75q all0
                have K_86 : Keep T_69.heap T_78.heap [] := Keep.trans (ws := []) K_85 K_78q all0
                have K_87 : Keep T_72.heap T_75.heap [] := Keep.trans (ws := []) (Keep.refl T_72.heap []) K_75q all0
                have K_88 : Keep T_72.heap T_78.heap [] := Keep.trans (ws := []) K_87 K_78q all0
                have K_89 : Keep T_75.heap T_78.heap [] := Keep.trans (ws := []) (Keep.refl T_75.heap []) K_78q all0
                have K_90 : Keep h0 T_78.heap [] := Keep.trans (ws := []) K_77 K_78q all0
                obtain ⟨_, _, ⟨T_91, L_91, k_91, n_91⟩, -, X_91, ⟨Lc_91, hQ_91, l_91, y_91, z_91⟩, st_91⟩ := X_78.specialBack hx (y := (⟨"com/example/kworum/kworum/model/EntryKey", "<init>", "(Ljava/lang/String;Ljava/lang/String;Ljava/lang/String;Ljava/lang/String;)V"⟩ : MethodName)) rfl hown (mvT hZ (own_w hw 58 rfl)) (mvT hZ (own_w hw 59 rfl)) (mvT hZ (own_w hw 60 rfl)) (by decide) (backOf (W := 1) (rmkey l Z a0 hw [] b_62 r_70 r_73 r_76 r_79 T_78.heap n0 (Nat.le_trans Z0 K_90.1) (A_62.keep K_83) (F_63.keep K_83 nin0) (F_64.keep K_83 nin0) (F_65.keep K_83 nin0) (F_66.keep K_83 nin0) (q_69_1.keep K_86) (q_72_1.keep K_88) (q_75_1.keep K_89) q_78_1 (Nat.le_trans Z0 (Nat.le_trans K_67.1 (Nat.le_of_eq g_62.symm)))) hZ (own_w hw 60 rfl) (own_w hw 57 rfl) (by decide) (by decide)) (g := (mkF m 223 #[.val (.long q1), .second, .val (.long q2), .second, .val (.int p3), .val (.int p4), .val (.int c0), .val (.int c1), .val (.int c2), .val (.int c3), .val (.int c4), .val (.int d0), .val (.int d1), .val (.int d2), .val (.int d3), .val (.int d4), .val (.ref b_31), .val (.int (p4 &&& (3 : Int32))), .unset, .unset] [(.ref r_79), (.ref r_76), (.ref r_73), (.ref r_70), (.ref b_62), (.ref b_62)])) rfl (by rw [hml]; rfl) (Steps.refl _) (a := b_62) (argsL := [(.ref r_70), (.ref r_73), (.ref r_76), (.ref r_79)]) (rest := [(.ref b_62)]) (lenOf pd_7 rfl) rfl (by show 2 * 0 + _ ≤ _; exact Nat.le_of_eq rfl) (hb hby at_223) (fun _ _ => ⟨rfl, rfl, (by decide : 29 + 0 ≤ _), (by decide : 63 + 0 ≤ _)⟩)
                dsimp only [Pt.U, Pt.locs, Pt.cells, Pt.slots] at X_91 l_91 y_91 z_91 st_91 hQ_91
                subst l_91 y_91 z_91
                obtain ⟨rfl, Nq_91, K_91q⟩ := hQ_91
                have N_91 := Fr.app N_78 Nq_91
                refine own_via (fun _ k => st_91.trans k) ?_
                show own_Go p e below _ (T_91.setTop (mkF m 226 #[.val (.long q1), .second, .val (.long q2), .second, .val (.int p3), .val (.int p4), .val (.int c0), .val (.int c1), .val (.int c2), .val (.int c3), .val (.int c4), .val (.int d0), .val (.int d1), .val (.int d2), .val (.int d3), .val (.int d4), .val (.ref b_31), .val (.int (p4 &&& (3 : Int32))), .unset, .unset] [(.ref b_62)]))
                refine own_via (fun _ => XS.astore X_91.here hx rfl (hb hby at_226) rfl rfl (l' := #[.val (.long q1), .second, .val (.long q2), .second, .val (.int p3), .val (.int p4), .val (.int c0), .val (.int c1), .val (.int c2), .val (.int c3), .val (.int c4), .val (.int d0), .val (.int d1), .val (.int d2), .val (.int d3), .val (.int d4), .val (.ref b_31), .val (.int (p4 &&& (3 : Int32))), .val (.ref b_62), .unset]) rfl) ?_
                show own_Go p e below _ (T_91.setTop (mkF m 228 #[.val (.long q1), .second, .val (.long q2), .second, .val (.int p3), .val (.int p4), .val (.int c0), .val (.int c1), .val (.int c2), .val (.int c3), .val (.int c4), .val (.int d0), .val (.int d1), .val (.int d2), .val (.int d3), .val (.int d4), .val (.ref b_31), .val (.int (p4 &&& (3 : Int32))), .val (.ref b_62), .unset] []))
                refine own_via (fun _ => XS.aload X_91.here hx rfl (hb hby at_228) rfl rfl) ?_
                show own_Go p e below _ (T_91.setTop (mkF m 230 #[.val (.long q1), .second, .val (.long q2), .second, .val (.int p3), .val (.int p4), .val (.int c0), .val (.int c1), .val (.int c2), .val (.int c3), .val (.int c4), .val (.int d0), .val (.int d1), .val (.int d2), .val (.int d3), .val (.int d4), .val (.ref b_31), .val (.int (p4 &&& (3 : Int32))), .val (.ref b_62), .unset] [(.ref b_31)]))
                refine own_via (fun _ => XS.aload X_91.here hx rfl (hb hby at_230) rfl rfl) ?_
                show own_Go p e below _ (T_91.setTop (mkF m 232 #[.val (.long q1), .second, .val (.long q2), .second, .val (.int p3), .val (.int p4), .val (.int c0), .val (.int c1), .val (.int c2), .val (.int c3), .val (.int c4), .val (.int d0), .val (.int d1), .val (.int d2), .val (.int d3), .val (.int d4), .val (.ref b_31), .val (.int (p4 &&& (3 : Int32))), .val (.ref b_62), .unset] [(.ref b_62), (.ref b_31)]))
                have K_92 : Keep h_62 T_91.heap [b_62] := Keep.trans (ws := [b_62]) (own_keep_mono K_83 (by simp)) K_91q (allS (Or.inl (List.mem_of_getElem? (i := 0) rfl)) all0)
                have K_93 : Keep h0 T_91.heap [] := Keep.trans (ws := []) K_90 K_91q (allS (Or.inr (Nat.le_trans K_67.1 (Nat.le_of_eq g_62.symm))) all0)
                have K_95 : Keep h_31 T_58.heap [b_31] := Keep.trans (ws := [b_31]) (own_keep_mono K_56 (by simp)) K_58q (allS (Or.inl (List.mem_of_getElem? (i := 0) rfl)) all0)
                have K_96 : Keep h_31 h_62 [b_31] := K_95.ext E_62
                have K_97 : Keep h_31 T_69.heap [b_31] := Keep.trans (ws := [b_31]) K_96 K_69q all0
                have K_98 : Keep h_31 T_72.heap [b_31] := Keep.trans (ws := [b_31]) K_97 K_72q all0
                have K_99 : Keep h_31 T_75.heap [b_31] := Keep.trans (ws := [b_31]) K_98 K_75q all0
                have K_100 : Keep h_31 T_78.heap [b_31] := Keep.trans (ws := [b_31]) K_99 K_78q all0
                have K_101 : Keep h_31 T_91.heap [b_31] := Keep.trans (ws := [b_31]) K_100 K_91q (allS (Or.inr (Nat.le_trans K_95.1 (Nat.le_of_eq g_62.symm))) all0)
                obtain ⟨cq_94, kq_94, q_94a, q_94b, q_94c⟩ := isOf hZ rfl (A_31.keep K_101)
                obtain ⟨_, _, ⟨T_94, L_94, k_94, n_94⟩, -, X_94, ⟨Lc_94, hQ_94, l_94, y_94, z_94⟩, st_94⟩ := X_91.virtualBack hx (y := (⟨"com/example/kworum/kworum/model/Entry", "equals", "(Ljava/lang/Object;)Z"⟩ : MethodName)) (z := (⟨"com/example/kworum/kworum/model/Entry", "equals", "(Ljava/lang/Object;)Z"⟩ : MethodName)) hown (mvT hZ (own_w hw 75 rfl)) (mvT hZ (own_w hw 76 rfl)) (notFace_of_selects (args := #[]) (mvT hZ (own_w hw 78 rfl))) (mvT hZ (own_w hw 78 rfl)) (mvT hZ (own_w hw 77 rfl)) (by decide) (backOf (W := 0) (rmeqK l Z a0 hw [] b_31 b_62 T_91.heap n0 (Nat.le_trans Z0 K_93.1) (A_62.keep K_92)) hZ (own_w hw 79 rfl) (own_w hw 7 rfl) (by decide) (by decide)) q_94a q_94c (g := (mkF m 232 #[.val (.long q1), .second, .val (.long q2), .second, .val (.int p3), .val (.int p4), .val (.int c0), .val (.int c1), .val (.int c2), .val (.int c3), .val (.int c4), .val (.int d0), .val (.int d1), .val (.int d2), .val (.int d3), .val (.int d4), .val (.ref b_31), .val (.int (p4 &&& (3 : Int32))), .val (.ref b_62), .unset] [(.ref b_62), (.ref b_31)])) rfl (by rw [hml]; rfl) (Steps.refl _) (argsL := [(.ref b_62)]) (rest := []) (lenOf pd_3 rfl) rfl (by show 2 * 0 + _ ≤ _; exact Nat.le_of_eq rfl) (hb hby at_232) (fun _ _ => ⟨rfl, rfl, (by decide : 29 + 0 ≤ _), (by decide : 63 + 0 ≤ _)⟩)
                dsimp only [Pt.U, Pt.locs, Pt.cells, Pt.slots] at X_94 l_94 y_94 z_94 st_94 hQ_94
                subst l_94 y_94 z_94
                obtain ⟨rfl, Nq_94, e_94⟩ := hQ_94
                have N_94 := Fr.app N_91 Nq_94
                refine own_via (fun _ k => st_94.trans k) ?_
                show own_Go p e below _ (T_94.setTop (mkF m 235 #[.val (.long q1), .second, .val (.long q2), .second, .val (.int p3), .val (.int p4), .val (.int c0), .val (.int c1), .val (.int c2), .val (.int c3), .val (.int c4), .val (.int d0), .val (.int d1), .val (.int d2), .val (.int d3), .val (.int d4), .val (.ref b_31), .val (.int (p4 &&& (3 : Int32))), .val (.ref b_62), .unset] [(.int (0 : Int32))]))
                refine own_via (fun _ => XS.ifNo X_94.here hx rfl (hb hby at_235) rfl ((if0 _ _).trans (teq ((by decide) : (0 : Int32) = (0 : Int32))).2)) ?_
                show own_Go p e below _ (T_94.setTop (mkF m 238 #[.val (.long q1), .second, .val (.long q2), .second, .val (.int p3), .val (.int p4), .val (.int c0), .val (.int c1), .val (.int c2), .val (.int c3), .val (.int c4), .val (.int d0), .val (.int d1), .val (.int d2), .val (.int d3), .val (.int d4), .val (.ref b_31), .val (.int (p4 &&& (3 : Int32))), .val (.ref b_62), .unset] []))
                refine own_via (fun _ => XS.iconst X_94.here hx rfl (hb hby at_238)) ?_
                show own_Go p e below _ (T_94.setTop (mkF m 239 #[.val (.long q1), .second, .val (.long q2), .second, .val (.int p3), .val (.int p4), .val (.int c0), .val (.int c1), .val (.int c2), .val (.int c3), .val (.int c4), .val (.int d0), .val (.int d1), .val (.int d2), .val (.int d3), .val (.int d4), .val (.ref b_31), .val (.int (p4 &&& (3 : Int32))), .val (.ref b_62), .unset] [(.int (1 : Int32))]))
                refine own_via (fun _ => XS.goto X_94.here hx rfl (pc0 := 239) (pc' := 243) rfl (hb hby at_239) (by decide) (by decide)) ?_
                show own_Go p e below _ (T_94.setTop (mkF m 243 #[.val (.long q1), .second, .val (.long q2), .second, .val (.int p3), .val (.int p4), .val (.int c0), .val (.int c1), .val (.int c2), .val (.int c3), .val (.int c4), .val (.int d0), .val (.int d1), .val (.int d2), .val (.int d3), .val (.int d4), .val (.ref b_31), .val (.int (p4 &&& (3 : Int32))), .val (.ref b_62), .unset] [(.int (1 : Int32))]))
                exact own_retv X_94 Bd.notSynchronized hx Bd.returns rfl (Or.inl ⟨rfl, (by simp), _, rfl⟩) (hb hby at_243) (by decide) (by decide) (by rw [e_94]; exact ⟨rfl, N_94, K_93⟩)
              · refine own_via (fun _ => XS.icmpYes X_58.here hx rfl (pc0 := 196) (pc' := 244) rfl (hb hby at_196) rfl (feq (hk3 : ¬ ((p4 &&& (3 : Int32)) = (3 : Int32)))).2 (by decide) (by decide)) ?_
                show own_Go p e below _ (T_58.setTop (mkF m 244 #[.val (.long q1), .second, .val (.long q2), .second, .val (.int p3), .val (.int p4), .val (.int c0), .val (.int c1), .val (.int c2), .val (.int c3), .val (.int c4), .val (.int d0), .val (.int d1), .val (.int d2), .val (.int d3), .val (.int d4), .val (.ref b_31), .val (.int (p4 &&& (3 : Int32))), .unset, .unset] []))
                obtain ⟨T_102, h_102, X_102, e_102, E_102, A_102, D_102, -, st_102⟩ := newO X_58 hx hZ hown (own_w hw 5 rfl) (own_w hw 6 rfl) (own_w hw 7 rfl) rfl (g := (mkF m 244 #[.val (.long q1), .second, .val (.long q2), .second, .val (.int p3), .val (.int p4), .val (.int c0), .val (.int c1), .val (.int c2), .val (.int c3), .val (.int c4), .val (.int d0), .val (.int d1), .val (.int d2), .val (.int d3), .val (.int d4), .val (.ref b_31), .val (.int (p4 &&& (3 : Int32))), .unset, .unset] [])) rfl (hb hby at_244) (by decide) (by decide)
                obtain ⟨b_102, g_102⟩ : ∃ z, z = T_58.heap.size := ⟨_, rfl⟩
                rw [← g_102] at A_102 D_102 st_102
                have F_103 : Fld Z h_102 b_102 "com/example/kworum/kworum/model/Entry" "role" "Ljava/lang/String;" .null := D_102 (Or.inr (own_w hw 46 rfl)) (ty := (.object "java/lang/String")) (by decide)
                have F_104 : Fld Z h_102 b_102 "com/example/kworum/kworum/model/Entry" "type" "Ljava/lang/String;" .null := D_102 (Or.inr (own_w hw 48 rfl)) (ty := (.object "java/lang/String")) (by decide)
                have F_105 : Fld Z h_102 b_102 "com/example/kworum/kworum/model/Entry" "right" "Ljava/lang/String;" .null := D_102 (Or.inr (own_w hw 50 rfl)) (ty := (.object "java/lang/String")) (by decide)
                have F_106 : Fld Z h_102 b_102 "com/example/kworum/kworum/model/Entry" "target" "Ljava/lang/String;" .null := D_102 (Or.inr (own_w hw 52 rfl)) (ty := (.object "java/lang/String")) (by decide)
                have F_107 : Fld Z h_102 b_102 "com/example/kworum/kworum/model/Entry" "template" "Ljava/lang/String;" .null := D_102 (Or.inr (own_w hw 54 rfl)) (ty := (.object "java/lang/String")) (by decide)
                refine own_via st_102 ?_
                show own_Go p e below _ (T_102.setTop (mkF m 247 #[.val (.long q1), .second, .val (.long q2), .second, .val (.int p3), .val (.int p4), .val (.int c0), .val (.int c1), .val (.int c2), .val (.int c3), .val (.int c4), .val (.int d0), .val (.int d1), .val (.int d2), .val (.int d3), .val (.int d4), .val (.ref b_31), .val (.int (p4 &&& (3 : Int32))), .unset, .unset] [(.ref b_102)]))
                refine own_via (fun _ => XS.dup X_102.here hx rfl (hb hby at_247) rfl rfl) ?_
                show own_Go p e below _ (T_102.setTop (mkF m 248 #[.val (.long q1), .second, .val (.long q2), .second, .val (.int p3), .val (.int p4), .val (.int c0), .val (.int c1), .val (.int c2), .val (.int c3), .val (.int c4), .val (.int d0), .val (.int d1), .val (.int d2), .val (.int d3), .val (.int d4), .val (.ref b_31), .val (.int (p4 &&& (3 : Int32))), .unset, .unset] [(.ref b_102), (.ref b_102)]))
                refine own_via (fun _ => XS.iload X_102.here hx rfl (hb hby at_248) rfl) ?_
                show own_Go p e below _ (T_102.setTop (mkF m 250 #[.val (.long q1), .second, .val (.long q2), .second, .val (.int p3), .val (.int p4), .val (.int c0), .val (.int c1), .val (.int c2), .val (.int c3), .val (.int c4), .val (.int d0), .val (.int d1), .val (.int d2), .val (.int d3), .val (.int d4), .val (.ref b_31), .val (.int (p4 &&& (3 : Int32))), .unset, .unset] [(.int d0), (.ref b_102), (.ref b_102)]))
                have K_108 : Keep h0 T_58.heap [] := Keep.trans (ws := []) K_57 K_58q (allS (Or.inr (Nat.le_of_eq g_31.symm)) all0)
                have K_109 : Keep h0 h_102 [] := K_108.ext E_102
                obtain ⟨_, _, ⟨T_110, L_110, k_110, n_110⟩, -, X_110, ⟨Lc_110, hQ_110, l_110, y_110, z_110⟩, st_110⟩ := Jvm.LawKit.callS X_102 hx (y := (⟨"com/example/kworum/kworum/model/EntryEqualsPinLaw", "s", "(C)Ljava/lang/String;"⟩ : MethodName)) hown (mvT hZ (own_w hw 8 rfl)) (mvT hZ (own_w hw 9 rfl)) (mvT hZ (own_w hw 2 rfl)) (mvT hZ (own_w hw 10 rfl)) (by decide) (backOf (W := 2) (rms l Z a0 hw [] d0 cs h_102 n0 (Nat.le_trans Z0 K_109.1) (O0.keep K_109 all0) Scs hcs hd0) hZ (own_w hw 10 rfl) (own_w hw 2 rfl) (by decide) (by decide)) (g := (mkF m 250 #[.val (.long q1), .second, .val (.long q2), .second, .val (.int p3), .val (.int p4), .val (.int c0), .val (.int c1), .val (.int c2), .val (.int c3), .val (.int c4), .val (.int d0), .val (.int d1), .val (.int d2), .val (.int d3), .val (.int d4), .val (.ref b_31), .val (.int (p4 &&& (3 : Int32))), .unset, .unset] [(.int d0), (.ref b_102), (.ref b_102)])) rfl (by rw [hml]; rfl) (argsL := [(.int d0)]) (rest := [(.ref b_102), (.ref b_102)]) (lenOf pd_5 rfl) rfl (by show 2 * 0 + _ ≤ _; exact Nat.le_of_eq rfl) (hb hby at_250) (fun _ _ => ⟨rfl, e_102, (by decide : 17 + 3 ≤ _), (by decide : 40 + 6 ≤ _)⟩)
                dsimp only [Pt.U, Pt.locs, Pt.cells, Pt.slots] at X_110 l_110 y_110 z_110 st_110 hQ_110
                subst l_110 y_110 z_110
                obtain ⟨r_111, rfl, Nq_110, K_110q, q_110_0, q_110_1, q_110_2⟩ := hQ_110
                have N_110 := Fr.app N_58 Nq_110
                refine own_via st_110 ?_
                show own_Go p e below _ (T_110.setTop (mkF m 253 #[.val (.long q1), .second, .val (.long q2), .second, .val (.int p3), .val (.int p4), .val (.int c0), .val (.int c1), .val (.int c2), .val (.int c3), .val (.int c4), .val (.int d0), .val (.int d1), .val (.int d2), .val (.int d3), .val (.int d4), .val (.ref b_31), .val (.int (p4 &&& (3 : Int32))), .unset, .unset] [(.ref r_111), (.ref b_102), (.ref b_102)]))
                refine own_via (fun _ => XS.iload X_110.here hx rfl (hb hby at_253) rfl) ?_
                show own_Go p e below _ (T_110.setTop (mkF m 255 #[.val (.long q1), .second, .val (.long q2), .second, .val (.int p3), .val (.int p4), .val (.int c0), .val (.int c1), .val (.int c2), .val (.int c3), .val (.int c4), .val (.int d0), .val (.int d1), .val (.int d2), .val (.int d3), .val (.int d4), .val (.ref b_31), .val (.int (p4 &&& (3 : Int32))), .unset, .unset] [(.int d1), (.ref r_111), (.ref b_102), (.ref b_102)]))
                have K_112 : Keep h0 T_110.heap [] := Keep.trans (ws := []) K_109 K_110q all0
                obtain ⟨_, _, ⟨T_113, L_113, k_113, n_113⟩, -, X_113, ⟨Lc_113, hQ_113, l_113, y_113, z_113⟩, st_113⟩ := Jvm.LawKit.callS X_110 hx (y := (⟨"com/example/kworum/kworum/model/EntryEqualsPinLaw", "s", "(C)Ljava/lang/String;"⟩ : MethodName)) hown (mvT hZ (own_w hw 8 rfl)) (mvT hZ (own_w hw 9 rfl)) (mvT hZ (own_w hw 2 rfl)) (mvT hZ (own_w hw 10 rfl)) (by decide) (backOf (W := 3) (rms l Z a0 hw [] d1 cs T_110.heap n0 (Nat.le_trans Z0 K_112.1) (O0.keep K_112 all0) Scs hcs hd1) hZ (own_w hw 10 rfl) (own_w hw 2 rfl) (by decide) (by decide)) (g := (mkF m 255 #[.val (.long q1), .second, .val (.long q2), .second, .val (.int p3), .val (.int p4), .val (.int c0), .val (.int c1), .val (.int c2), .val (.int c3), .val (.int c4), .val (.int d0), .val (.int d1), .val (.int d2), .val (.int d3), .val (.int d4), .val (.ref b_31), .val (.int (p4 &&& (3 : Int32))), .unset, .unset] [(.int d1), (.ref r_111), (.ref b_102), (.ref b_102)])) rfl (by rw [hml]; rfl) (argsL := [(.int d1)]) (rest := [(.ref r_111), (.ref b_102), (.ref b_102)]) (lenOf pd_5 rfl) rfl (by show 2 * 0 + _ ≤ _; exact Nat.le_of_eq rfl) (hb hby at_255) (fun _ _ => ⟨rfl, rfl, (by decide : 20 + 3 ≤ _), (by decide : 46 + 6 ≤ _)⟩)
                dsimp only [Pt.U, Pt.locs, Pt.cells, Pt.slots] at X_113 l_113 y_113 z_113 st_113 hQ_113
                subst l_113 y_113 z_113
                obtain ⟨r_114, rfl, Nq_113, K_113q, q_113_0, q_113_1, q_113_2⟩ := hQ_113
                have N_113 := Fr.app N_110 Nq_113
                refine own_via st_113 ?_
                show own_Go p e below _ (T_113.setTop (mkF m 258 #[.val (.long q1), .second, .val (.long q2), .second, .val (.int p3), .val (.int p4), .val (.int c0), .val (.int c1), .val (.int c2), .val (.int c3), .val (.int c4), .val (.int d0), .val (.int d1), .val (.int d2), .val (.int d3), .val (.int d4), .val (.ref b_31), .val (.int (p4 &&& (3 : Int32))), .unset, .unset] [(.ref r_114), (.ref r_111), (.ref b_102), (.ref b_102)]))
                refine own_via (fun _ => XS.iload X_113.here hx rfl (hb hby at_258) rfl) ?_
                show own_Go p e below _ (T_113.setTop (mkF m 260 #[.val (.long q1), .second, .val (.long q2), .second, .val (.int p3), .val (.int p4), .val (.int c0), .val (.int c1), .val (.int c2), .val (.int c3), .val (.int c4), .val (.int d0), .val (.int d1), .val (.int d2), .val (.int d3), .val (.int d4), .val (.ref b_31), .val (.int (p4 &&& (3 : Int32))), .unset, .unset] [(.int d2), (.ref r_114), (.ref r_111), (.ref b_102), (.ref b_102)]))
                have K_115 : Keep h0 T_113.heap [] := Keep.trans (ws := []) K_112 K_113q all0
                obtain ⟨_, _, ⟨T_116, L_116, k_116, n_116⟩, -, X_116, ⟨Lc_116, hQ_116, l_116, y_116, z_116⟩, st_116⟩ := Jvm.LawKit.callS X_113 hx (y := (⟨"com/example/kworum/kworum/model/EntryEqualsPinLaw", "s", "(C)Ljava/lang/String;"⟩ : MethodName)) hown (mvT hZ (own_w hw 8 rfl)) (mvT hZ (own_w hw 9 rfl)) (mvT hZ (own_w hw 2 rfl)) (mvT hZ (own_w hw 10 rfl)) (by decide) (backOf (W := 4) (rms l Z a0 hw [] d2 cs T_113.heap n0 (Nat.le_trans Z0 K_115.1) (O0.keep K_115 all0) Scs hcs hd2) hZ (own_w hw 10 rfl) (own_w hw 2 rfl) (by decide) (by decide)) (g := (mkF m 260 #[.val (.long q1), .second, .val (.long q2), .second, .val (.int p3), .val (.int p4), .val (.int c0), .val (.int c1), .val (.int c2), .val (.int c3), .val (.int c4), .val (.int d0), .val (.int d1), .val (.int d2), .val (.int d3), .val (.int d4), .val (.ref b_31), .val (.int (p4 &&& (3 : Int32))), .unset, .unset] [(.int d2), (.ref r_114), (.ref r_111), (.ref b_102), (.ref b_102)])) rfl (by rw [hml]; rfl) (argsL := [(.int d2)]) (rest := [(.ref r_114), (.ref r_111), (.ref b_102), (.ref b_102)]) (lenOf pd_5 rfl) rfl (by show 2 * 0 + _ ≤ _; exact Nat.le_of_eq rfl) (hb hby at_260) (fun _ _ => ⟨rfl, rfl, (by decide : 23 + 3 ≤ _), (by decide : 52 + 6 ≤ _)⟩)
                dsimp only [Pt.U, Pt.locs, Pt.cells, Pt.slots] at X_116 l_116 y_116 z_116 st_116 hQ_116
                subst l_116 y_116 z_116
                obtain ⟨r_117, rfl, Nq_116, K_116q, q_116_0, q_116_1, q_116_2⟩ := hQ_116
                have N_116 := Fr.app N_113 Nq_116
                refine own_via st_116 ?_
                show own_Go p e below _ (T_116.setTop (mkF m 263 #[.val (.long q1), .second, .val (.long q2), .second, .val (.int p3), .val (.int p4), .val (.int c0), .val (.int c1), .val (.int c2), .val (.int c3), .val (.int c4), .val (.int d0), .val (.int d1), .val (.int d2), .val (.int d3), .val (.int d4), .val (.ref b_31), .val (.int (p4 &&& (3 : Int32))), .unset, .unset] [(.ref r_117), (.ref r_114), (.ref r_111), (.ref b_102), (.ref b_102)]))
                refine own_via (fun _ => XS.iload X_116.here hx rfl (hb hby at_263) rfl) ?_
                show own_Go p e below _ (T_116.setTop (mkF m 265 #[.val (.long q1), .second, .val (.long q2), .second, .val (.int p3), .val (.int p4), .val (.int c0), .val (.int c1), .val (.int c2), .val (.int c3), .val (.int c4), .val (.int d0), .val (.int d1), .val (.int d2), .val (.int d3), .val (.int d4), .val (.ref b_31), .val (.int (p4 &&& (3 : Int32))), .unset, .unset] [(.int d3), (.ref r_117), (.ref r_114), (.ref r_111), (.ref b_102), (.ref b_102)]))
                have K_118 : Keep h0 T_116.heap [] := Keep.trans (ws := []) K_115 K_116q all0
                obtain ⟨_, _, ⟨T_119, L_119, k_119, n_119⟩, -, X_119, ⟨Lc_119, hQ_119, l_119, y_119, z_119⟩, st_119⟩ := Jvm.LawKit.callS X_116 hx (y := (⟨"com/example/kworum/kworum/model/EntryEqualsPinLaw", "s", "(C)Ljava/lang/String;"⟩ : MethodName)) hown (mvT hZ (own_w hw 8 rfl)) (mvT hZ (own_w hw 9 rfl)) (mvT hZ (own_w hw 2 rfl)) (mvT hZ (own_w hw 10 rfl)) (by decide) (backOf (W := 5) (rms l Z a0 hw [] d3 cs T_116.heap n0 (Nat.le_trans Z0 K_118.1) (O0.keep K_118 all0) Scs hcs hd3) hZ (own_w hw 10 rfl) (own_w hw 2 rfl) (by decide) (by decide)) (g := (mkF m 265 #[.val (.long q1), .second, .val (.long q2), .second, .val (.int p3), .val (.int p4), .val (.int c0), .val (.int c1), .val (.int c2), .val (.int c3), .val (.int c4), .val (.int d0), .val (.int d1), .val (.int d2), .val (.int d3), .val (.int d4), .val (.ref b_31), .val (.int (p4 &&& (3 : Int32))), .unset, .unset] [(.int d3), (.ref r_117), (.ref r_114), (.ref r_111), (.ref b_102), (.ref b_102)])) rfl (by rw [hml]; rfl) (argsL := [(.int d3)]) (rest := [(.ref r_117), (.ref r_114), (.ref r_111), (.ref b_102), (.ref b_102)]) (lenOf pd_5 rfl) rfl (by show 2 * 0 + _ ≤ _; exact Nat.le_of_eq rfl) (hb hby at_265) (fun _ _ => ⟨rfl, rfl, (by decide : 26 + 3 ≤ _), (by decide : 58 + 6 ≤ _)⟩)
                dsimp only [Pt.U, Pt.locs, Pt.cells, Pt.slots] at X_119 l_119 y_119 z_119 st_119 hQ_119
                subst l_119 y_119 z_119
                obtain ⟨r_120, rfl, Nq_119, K_119q, q_119_0, q_119_1, q_119_2⟩ := hQ_119
                have N_119 := Fr.app N_116 Nq_119
                refine own_via st_119 ?_
                show own_Go p e below _ (T_119.setTop (mkF m 268 #[.val (.long q1), .second, .val (.long q2), .second, .val (.int p3), .val (.int p4), .val (.int c0), .val (.int c1), .val (.int c2), .val (.int c3), .val (.int c4), .val (.int d0), .val (.int d1), .val (.int d2), .val (.int d3), .val (.int d4), .val (.ref b_31), .val (.int (p4 &&& (3 : Int32))), .unset, .unset] [(.ref r_120), (.ref r_117), (.ref r_114), (.ref r_111), (.ref b_102), (.ref b_102)]))
                refine own_via (fun _ => XS.iload X_119.here hx rfl (hb hby at_268) rfl) ?_
                show own_Go p e below _ (T_119.setTop (mkF m 270 #[.val (.long q1), .second, .val (.long q2), .second, .val (.int p3), .val (.int p4), .val (.int c0), .val (.int c1), .val (.int c2), .val (.int c3), .val (.int c4), .val (.int d0), .val (.int d1), .val (.int d2), .val (.int d3), .val (.int d4), .val (.ref b_31), .val (.int (p4 &&& (3 : Int32))), .unset, .unset] [(.int d4), (.ref r_120), (.ref r_117), (.ref r_114), (.ref r_111), (.ref b_102), (.ref b_102)]))
                have K_121 : Keep h0 T_119.heap [] := Keep.trans (ws := []) K_118 K_119q all0
                obtain ⟨_, _, ⟨T_122, L_122, k_122, n_122⟩, -, X_122, ⟨Lc_122, hQ_122, l_122, y_122, z_122⟩, st_122⟩ := Jvm.LawKit.callS X_119 hx (y := (⟨"com/example/kworum/kworum/model/EntryEqualsPinLaw", "s", "(C)Ljava/lang/String;"⟩ : MethodName)) hown (mvT hZ (own_w hw 8 rfl)) (mvT hZ (own_w hw 9 rfl)) (mvT hZ (own_w hw 2 rfl)) (mvT hZ (own_w hw 10 rfl)) (by decide) (backOf (W := 6) (rms l Z a0 hw [] d4 cs T_119.heap n0 (Nat.le_trans Z0 K_121.1) (O0.keep K_121 all0) Scs hcs hd4) hZ (own_w hw 10 rfl) (own_w hw 2 rfl) (by decide) (by decide)) (g := (mkF m 270 #[.val (.long q1), .second, .val (.long q2), .second, .val (.int p3), .val (.int p4), .val (.int c0), .val (.int c1), .val (.int c2), .val (.int c3), .val (.int c4), .val (.int d0), .val (.int d1), .val (.int d2), .val (.int d3), .val (.int d4), .val (.ref b_31), .val (.int (p4 &&& (3 : Int32))), .unset, .unset] [(.int d4), (.ref r_120), (.ref r_117), (.ref r_114), (.ref r_111), (.ref b_102), (.ref b_102)])) rfl (by rw [hml]; rfl) (argsL := [(.int d4)]) (rest := [(.ref r_120), (.ref r_117), (.ref r_114), (.ref r_111), (.ref b_102), (.ref b_102)]) (lenOf pd_5 rfl) rfl (by show 2 * 0 + _ ≤ _; exact Nat.le_of_eq rfl) (hb hby at_270) (fun _ _ => ⟨rfl, rfl, (by decide : 29 + 3 ≤ _), (by decide : 64 + 6 ≤ _)⟩)
                dsimp only [Pt.U, Pt.locs, Pt.cells, Pt.slots] at X_122 l_122 y_122 z_122 st_122 hQ_122
                subst l_122 y_122 z_122
                obtain ⟨r_123, rfl, Nq_122, K_122q, q_122_0, q_122_1, q_122_2⟩ := hQ_122
                have N_122 := Fr.app N_119 Nq_122
                refine own_via st_122 ?_
                show own_Go p e below _ (T_122.setTop (mkF m 273 #[.val (.long q1), .second, .val (.long q2), .second, .val (.int p3), .val (.int p4), .val (.int c0), .val (.int c1), .val (.int c2), .val (.int c3), .val (.int c4), .val (.int d0), .val (.int d1), .val (.int d2), .val (.int d3), .val (.int d4), .val (.ref b_31), .val (.int (p4 &&& (3 : Int32))), .unset, .unset] [(.ref r_123), (.ref r_120), (.ref r_117), (.ref r_114), (.ref r_111), (.ref b_102), (.ref b_102)]))
                have K_124 : Keep h_102 T_110.heap [] := Keep.trans (ws := []) (Keep.refl h_102 []) K_110q all0
                have K_125 : Keep h_102 T_113.heap [] := Keep.trans (ws := []) K_124 K_113q all0
                have K_126 : Keep h_102 T_116.heap [] := Keep.trans (ws := []) K_125 K_116q all0
                have K_127 : Keep h_102 T_119.heap [] := Keep.trans (ws := []) K_126 K_119q all0
                have K_128 : Keep h_102 T_122.heap [] := Keep.trans (ws := []) K_127 K_122q all0
                have K_129 : Keep h0 T_122.heap [] := Keep.trans (ws := []) K_121 K_122q all0
                obtain ⟨_, _, ⟨T_130, L_130, k_130, n_130⟩, -, X_130, ⟨Lc_130, hQ_130, l_130, y_130, z_130⟩, st_130⟩ := X_122.specialBack hx (y := (⟨"com/example/kworum/kworum/model/Entry", "<init>", "(Ljava/lang/String;Ljava/lang/String;Ljava/lang/String;Ljava/lang/String;Ljava/lang/String;)V"⟩ : MethodName)) rfl hown (mvT hZ (own_w hw 41 rfl)) (mvT hZ (own_w hw 42 rfl)) (mvT hZ (own_w hw 43 rfl)) (by decide) (backOf (W := 1) (rmentry l Z a0 hw [] b_102 r_111 r_114 r_117 r_120 r_123 T_122.heap n0 (Nat.le_trans Z0 K_129.1) (A_102.keep K_128) (F_103.keep K_128 nin0) (F_104.keep K_128 nin0) (F_105.keep K_128 nin0) (F_106.keep K_128 nin0) (F_107.keep K_128 nin0) (Nat.le_trans Z0 (Nat.le_trans K_108.1 (Nat.le_of_eq g_102.symm)))) hZ (own_w hw 43 rfl) (own_w hw 7 rfl) (by decide) (by decide)) (g := (mkF m 273 #[.val (.long q1), .second, .val (.long q2), .second, .val (.int p3), .val (.int p4), .val (.int c0), .val (.int c1), .val (.int c2), .val (.int c3), .val (.int c4), .val (.int d0), .val (.int d1), .val (.int d2), .val (.int d3), .val (.int d4), .val (.ref b_31), .val (.int (p4 &&& (3 : Int32))), .unset, .unset] [(.ref r_123), (.ref r_120), (.ref r_117), (.ref r_114), (.ref r_111), (.ref b_102), (.ref b_102)])) rfl (by rw [hml]; rfl) (Steps.refl _) (a := b_102) (argsL := [(.ref r_111), (.ref r_114), (.ref r_117), (.ref r_120), (.ref r_123)]) (rest := [(.ref b_102)]) (lenOf pd_6 rfl) rfl (by show 2 * 0 + _ ≤ _; exact Nat.le_of_eq rfl) (hb hby at_273) (fun _ _ => ⟨rfl, rfl, (by decide : 32 + 0 ≤ _), (by decide : 70 + 0 ≤ _)⟩)
                dsimp only [Pt.U, Pt.locs, Pt.cells, Pt.slots] at X_130 l_130 y_130 z_130 st_130 hQ_130
                subst l_130 y_130 z_130
                obtain ⟨rfl, Nq_130, K_130q, q_130_0, q_130_1, q_130_2, q_130_3, q_130_4⟩ := hQ_130
                have N_130 := Fr.app N_122 Nq_130
                refine own_via (fun _ k => st_130.trans k) ?_
                show own_Go p e below _ (T_130.setTop (mkF m 276 #[.val (.long q1), .second, .val (.long q2), .second, .val (.int p3), .val (.int p4), .val (.int c0), .val (.int c1), .val (.int c2), .val (.int c3), .val (.int c4), .val (.int d0), .val (.int d1), .val (.int d2), .val (.int d3), .val (.int d4), .val (.ref b_31), .val (.int (p4 &&& (3 : Int32))), .unset, .unset] [(.ref b_102)]))
                refine own_via (fun _ => XS.astore X_130.here hx rfl (hb hby at_276) rfl rfl (l' := #[.val (.long q1), .second, .val (.long q2), .second, .val (.int p3), .val (.int p4), .val (.int c0), .val (.int c1), .val (.int c2), .val (.int c3), .val (.int c4), .val (.int d0), .val (.int d1), .val (.int d2), .val (.int d3), .val (.int d4), .val (.ref b_31), .val (.int (p4 &&& (3 : Int32))), .val (.ref b_102), .unset]) rfl) ?_
                show own_Go p e below _ (T_130.setTop (mkF m 278 #[.val (.long q1), .second, .val (.long q2), .second, .val (.int p3), .val (.int p4), .val (.int c0), .val (.int c1), .val (.int c2), .val (.int c3), .val (.int c4), .val (.int d0), .val (.int d1), .val (.int d2), .val (.int d3), .val (.int d4), .val (.ref b_31), .val (.int (p4 &&& (3 : Int32))), .val (.ref b_102), .unset] []))
                refine own_via (fun _ => XS.iload X_130.here hx rfl (hb hby at_278) rfl) ?_
                show own_Go p e below _ (T_130.setTop (mkF m 280 #[.val (.long q1), .second, .val (.long q2), .second, .val (.int p3), .val (.int p4), .val (.int c0), .val (.int c1), .val (.int c2), .val (.int c3), .val (.int c4), .val (.int d0), .val (.int d1), .val (.int d2), .val (.int d3), .val (.int d4), .val (.ref b_31), .val (.int (p4 &&& (3 : Int32))), .val (.ref b_102), .unset] [(.int c0)]))
                refine own_via (fun _ => XS.iload X_130.here hx rfl (hb hby at_280) rfl) ?_
                show own_Go p e below _ (T_130.setTop (mkF m 282 #[.val (.long q1), .second, .val (.long q2), .second, .val (.int p3), .val (.int p4), .val (.int c0), .val (.int c1), .val (.int c2), .val (.int c3), .val (.int c4), .val (.int d0), .val (.int d1), .val (.int d2), .val (.int d3), .val (.int d4), .val (.ref b_31), .val (.int (p4 &&& (3 : Int32))), .val (.ref b_102), .unset] [(.int d0), (.int c0)]))
                obtain ⟨ze, eze⟩ : ∃ z : Int32, z = (if c0 = d0 then (if c1 = d1 then (if c2 = d2 then (if c3 = d3 then (if c4 = d4 then (1 : Int32) else (0 : Int32)) else (0 : Int32)) else (0 : Int32)) else (0 : Int32)) else (0 : Int32)) := ⟨_, rfl⟩
                refine own_seq (B := T_130.setTop (mkF m 318 #[.val (.long q1), .second, .val (.long q2), .second, .val (.int p3), .val (.int p4), .val (.int c0), .val (.int c1), .val (.int c2), .val (.int c3), .val (.int c4), .val (.int d0), .val (.int d1), .val (.int d2), .val (.int d3), .val (.int d4), .val (.ref b_31), .val (.int (p4 &&& (3 : Int32))), .val (.ref b_102), .unset] [(.int ze)])) (fun kz => ?_) ?_
                · by_cases hv_131 : c0 = d0
                  · refine own_via (fun _ => XS.icmpNo X_130.here hx rfl (hb hby at_282) rfl (teq (hv_131 : c0 = d0)).2) ?_
                    show own_Go p e below _ (T_130.setTop (mkF m 285 #[.val (.long q1), .second, .val (.long q2), .second, .val (.int p3), .val (.int p4), .val (.int c0), .val (.int c1), .val (.int c2), .val (.int c3), .val (.int c4), .val (.int d0), .val (.int d1), .val (.int d2), .val (.int d3), .val (.int d4), .val (.ref b_31), .val (.int (p4 &&& (3 : Int32))), .val (.ref b_102), .unset] []))
                    refine own_via (fun _ => XS.iload X_130.here hx rfl (hb hby at_285) rfl) ?_
                    show own_Go p e below _ (T_130.setTop (mkF m 287 #[.val (.long q1), .second, .val (.long q2), .second, .val (.int p3), .val (.int p4), .val (.int c0), .val (.int c1), .val (.int c2), .val (.int c3), .val (.int c4), .val (.int d0), .val (.int d1), .val (.int d2), .val (.int d3), .val (.int d4), .val (.ref b_31), .val (.int (p4 &&& (3 : Int32))), .val (.ref b_102), .unset] [(.int c1)]))
                    refine own_via (fun _ => XS.iload X_130.here hx rfl (hb hby at_287) rfl) ?_
                    show own_Go p e below _ (T_130.setTop (mkF m 289 #[.val (.long q1), .second, .val (.long q2), .second, .val (.int p3), .val (.int p4), .val (.int c0), .val (.int c1), .val (.int c2), .val (.int c3), .val (.int c4), .val (.int d0), .val (.int d1), .val (.int d2), .val (.int d3), .val (.int d4), .val (.ref b_31), .val (.int (p4 &&& (3 : Int32))), .val (.ref b_102), .unset] [(.int d1), (.int c1)]))
                    by_cases hv_132 : c1 = d1
                    · refine own_via (fun _ => XS.icmpNo X_130.here hx rfl (hb hby at_289) rfl (teq (hv_132 : c1 = d1)).2) ?_
                      show own_Go p e below _ (T_130.setTop (mkF m 292 #[.val (.long q1), .second, .val (.long q2), .second, .val (.int p3), .val (.int p4), .val (.int c0), .val (.int c1), .val (.int c2), .val (.int c3), .val (.int c4), .val (.int d0), .val (.int d1), .val (.int d2), .val (.int d3), .val (.int d4), .val (.ref b_31), .val (.int (p4 &&& (3 : Int32))), .val (.ref b_102), .unset] []))
                      refine own_via (fun _ => XS.iload X_130.here hx rfl (hb hby at_292) rfl) ?_
                      show own_Go p e below _ (T_130.setTop (mkF m 294 #[.val (.long q1), .second, .val (.long q2), .second, .val (.int p3), .val (.int p4), .val (.int c0), .val (.int c1), .val (.int c2), .val (.int c3), .val (.int c4), .val (.int d0), .val (.int d1), .val (.int d2), .val (.int d3), .val (.int d4), .val (.ref b_31), .val (.int (p4 &&& (3 : Int32))), .val (.ref b_102), .unset] [(.int c2)]))
                      refine own_via (fun _ => XS.iload X_130.here hx rfl (hb hby at_294) rfl) ?_
                      show own_Go p e below _ (T_130.setTop (mkF m 296 #[.val (.long q1), .second, .val (.long q2), .second, .val (.int p3), .val (.int p4), .val (.int c0), .val (.int c1), .val (.int c2), .val (.int c3), .val (.int c4), .val (.int d0), .val (.int d1), .val (.int d2), .val (.int d3), .val (.int d4), .val (.ref b_31), .val (.int (p4 &&& (3 : Int32))), .val (.ref b_102), .unset] [(.int d2), (.int c2)]))
                      by_cases hv_133 : c2 = d2
                      · refine own_via (fun _ => XS.icmpNo X_130.here hx rfl (hb hby at_296) rfl (teq (hv_133 : c2 = d2)).2) ?_
                        show own_Go p e below _ (T_130.setTop (mkF m 299 #[.val (.long q1), .second, .val (.long q2), .second, .val (.int p3), .val (.int p4), .val (.int c0), .val (.int c1), .val (.int c2), .val (.int c3), .val (.int c4), .val (.int d0), .val (.int d1), .val (.int d2), .val (.int d3), .val (.int d4), .val (.ref b_31), .val (.int (p4 &&& (3 : Int32))), .val (.ref b_102), .unset] []))
                        refine own_via (fun _ => XS.iload X_130.here hx rfl (hb hby at_299) rfl) ?_
                        show own_Go p e below _ (T_130.setTop (mkF m 301 #[.val (.long q1), .second, .val (.long q2), .second, .val (.int p3), .val (.int p4), .val (.int c0), .val (.int c1), .val (.int c2), .val (.int c3), .val (.int c4), .val (.int d0), .val (.int d1), .val (.int d2), .val (.int d3), .val (.int d4), .val (.ref b_31), .val (.int (p4 &&& (3 : Int32))), .val (.ref b_102), .unset] [(.int c3)]))
                        refine own_via (fun _ => XS.iload X_130.here hx rfl (hb hby at_301) rfl) ?_
                        show own_Go p e below _ (T_130.setTop (mkF m 303 #[.val (.long q1), .second, .val (.long q2), .second, .val (.int p3), .val (.int p4), .val (.int c0), .val (.int c1), .val (.int c2), .val (.int c3), .val (.int c4), .val (.int d0), .val (.int d1), .val (.int d2), .val (.int d3), .val (.int d4), .val (.ref b_31), .val (.int (p4 &&& (3 : Int32))), .val (.ref b_102), .unset] [(.int d3), (.int c3)]))
                        by_cases hv_134 : c3 = d3
                        · refine own_via (fun _ => XS.icmpNo X_130.here hx rfl (hb hby at_303) rfl (teq (hv_134 : c3 = d3)).2) ?_
                          show own_Go p e below _ (T_130.setTop (mkF m 306 #[.val (.long q1), .second, .val (.long q2), .second, .val (.int p3), .val (.int p4), .val (.int c0), .val (.int c1), .val (.int c2), .val (.int c3), .val (.int c4), .val (.int d0), .val (.int d1), .val (.int d2), .val (.int d3), .val (.int d4), .val (.ref b_31), .val (.int (p4 &&& (3 : Int32))), .val (.ref b_102), .unset] []))
                          refine own_via (fun _ => XS.iload X_130.here hx rfl (hb hby at_306) rfl) ?_
                          show own_Go p e below _ (T_130.setTop (mkF m 308 #[.val (.long q1), .second, .val (.long q2), .second, .val (.int p3), .val (.int p4), .val (.int c0), .val (.int c1), .val (.int c2), .val (.int c3), .val (.int c4), .val (.int d0), .val (.int d1), .val (.int d2), .val (.int d3), .val (.int d4), .val (.ref b_31), .val (.int (p4 &&& (3 : Int32))), .val (.ref b_102), .unset] [(.int c4)]))
                          refine own_via (fun _ => XS.iload X_130.here hx rfl (hb hby at_308) rfl) ?_
                          show own_Go p e below _ (T_130.setTop (mkF m 310 #[.val (.long q1), .second, .val (.long q2), .second, .val (.int p3), .val (.int p4), .val (.int c0), .val (.int c1), .val (.int c2), .val (.int c3), .val (.int c4), .val (.int d0), .val (.int d1), .val (.int d2), .val (.int d3), .val (.int d4), .val (.ref b_31), .val (.int (p4 &&& (3 : Int32))), .val (.ref b_102), .unset] [(.int d4), (.int c4)]))
                          by_cases hv_135 : c4 = d4
                          · refine own_via (fun _ => XS.icmpNo X_130.here hx rfl (hb hby at_310) rfl (teq (hv_135 : c4 = d4)).2) ?_
                            show own_Go p e below _ (T_130.setTop (mkF m 313 #[.val (.long q1), .second, .val (.long q2), .second, .val (.int p3), .val (.int p4), .val (.int c0), .val (.int c1), .val (.int c2), .val (.int c3), .val (.int c4), .val (.int d0), .val (.int d1), .val (.int d2), .val (.int d3), .val (.int d4), .val (.ref b_31), .val (.int (p4 &&& (3 : Int32))), .val (.ref b_102), .unset] []))
                            refine own_via (fun _ => XS.iconst X_130.here hx rfl (hb hby at_313)) ?_
                            show own_Go p e below _ (T_130.setTop (mkF m 314 #[.val (.long q1), .second, .val (.long q2), .second, .val (.int p3), .val (.int p4), .val (.int c0), .val (.int c1), .val (.int c2), .val (.int c3), .val (.int c4), .val (.int d0), .val (.int d1), .val (.int d2), .val (.int d3), .val (.int d4), .val (.ref b_31), .val (.int (p4 &&& (3 : Int32))), .val (.ref b_102), .unset] [(.int (1 : Int32))]))
                            refine own_via (fun _ => XS.goto X_130.here hx rfl (pc0 := 314) (pc' := 318) rfl (hb hby at_314) (by decide) (by decide)) ?_
                            show own_Go p e below _ (T_130.setTop (mkF m 318 #[.val (.long q1), .second, .val (.long q2), .second, .val (.int p3), .val (.int p4), .val (.int c0), .val (.int c1), .val (.int c2), .val (.int c3), .val (.int c4), .val (.int d0), .val (.int d1), .val (.int d2), .val (.int d3), .val (.int d4), .val (.ref b_31), .val (.int (p4 &&& (3 : Int32))), .val (.ref b_102), .unset] [(.int (1 : Int32))]))
                            rw [if_pos hv_131] at eze
                            rw [if_pos hv_132] at eze
                            rw [if_pos hv_133] at eze
                            rw [if_pos hv_134] at eze
                            rw [if_pos hv_135] at eze
                            subst eze
                            exact kz
                          · refine own_via (fun _ => XS.icmpYes X_130.here hx rfl (pc0 := 310) (pc' := 317) rfl (hb hby at_310) rfl (feq (hv_135 : ¬ (c4 = d4))).2 (by decide) (by decide)) ?_
                            show own_Go p e below _ (T_130.setTop (mkF m 317 #[.val (.long q1), .second, .val (.long q2), .second, .val (.int p3), .val (.int p4), .val (.int c0), .val (.int c1), .val (.int c2), .val (.int c3), .val (.int c4), .val (.int d0), .val (.int d1), .val (.int d2), .val (.int d3), .val (.int d4), .val (.ref b_31), .val (.int (p4 &&& (3 : Int32))), .val (.ref b_102), .unset] []))
                            refine own_via (fun _ => XS.iconst X_130.here hx rfl (hb hby at_317)) ?_
                            show own_Go p e below _ (T_130.setTop (mkF m 318 #[.val (.long q1), .second, .val (.long q2), .second, .val (.int p3), .val (.int p4), .val (.int c0), .val (.int c1), .val (.int c2), .val (.int c3), .val (.int c4), .val (.int d0), .val (.int d1), .val (.int d2), .val (.int d3), .val (.int d4), .val (.ref b_31), .val (.int (p4 &&& (3 : Int32))), .val (.ref b_102), .unset] [(.int (0 : Int32))]))
                            rw [if_pos hv_131] at eze
                            rw [if_pos hv_132] at eze
                            rw [if_pos hv_133] at eze
                            rw [if_pos hv_134] at eze
                            rw [if_neg hv_135] at eze
                            subst eze
                            exact kz
                        · refine own_via (fun _ => XS.icmpYes X_130.here hx rfl (pc0 := 303) (pc' := 317) rfl (hb hby at_303) rfl (feq (hv_134 : ¬ (c3 = d3))).2 (by decide) (by decide)) ?_
                          show own_Go p e below _ (T_130.setTop (mkF m 317 #[.val (.long q1), .second, .val (.long q2), .second, .val (.int p3), .val (.int p4), .val (.int c0), .val (.int c1), .val (.int c2), .val (.int c3), .val (.int c4), .val (.int d0), .val (.int d1), .val (.int d2), .val (.int d3), .val (.int d4), .val (.ref b_31), .val (.int (p4 &&& (3 : Int32))), .val (.ref b_102), .unset] []))
                          refine own_via (fun _ => XS.iconst X_130.here hx rfl (hb hby at_317)) ?_
                          show own_Go p e below _ (T_130.setTop (mkF m 318 #[.val (.long q1), .second, .val (.long q2), .second, .val (.int p3), .val (.int p4), .val (.int c0), .val (.int c1), .val (.int c2), .val (.int c3), .val (.int c4), .val (.int d0), .val (.int d1), .val (.int d2), .val (.int d3), .val (.int d4), .val (.ref b_31), .val (.int (p4 &&& (3 : Int32))), .val (.ref b_102), .unset] [(.int (0 : Int32))]))
                          rw [if_pos hv_131] at eze
                          rw [if_pos hv_132] at eze
                          rw [if_pos hv_133] at eze
                          rw [if_neg hv_134] at eze
                          subst eze
                          exact kz
                      · refine own_via (fun _ => XS.icmpYes X_130.here hx rfl (pc0 := 296) (pc' := 317) rfl (hb hby at_296) rfl (feq (hv_133 : ¬ (c2 = d2))).2 (by decide) (by decide)) ?_
                        show own_Go p e below _ (T_130.setTop (mkF m 317 #[.val (.long q1), .second, .val (.long q2), .second, .val (.int p3), .val (.int p4), .val (.int c0), .val (.int c1), .val (.int c2), .val (.int c3), .val (.int c4), .val (.int d0), .val (.int d1), .val (.int d2), .val (.int d3), .val (.int d4), .val (.ref b_31), .val (.int (p4 &&& (3 : Int32))), .val (.ref b_102), .unset] []))
                        refine own_via (fun _ => XS.iconst X_130.here hx rfl (hb hby at_317)) ?_
                        show own_Go p e below _ (T_130.setTop (mkF m 318 #[.val (.long q1), .second, .val (.long q2), .second, .val (.int p3), .val (.int p4), .val (.int c0), .val (.int c1), .val (.int c2), .val (.int c3), .val (.int c4), .val (.int d0), .val (.int d1), .val (.int d2), .val (.int d3), .val (.int d4), .val (.ref b_31), .val (.int (p4 &&& (3 : Int32))), .val (.ref b_102), .unset] [(.int (0 : Int32))]))
                        rw [if_pos hv_131] at eze
                        rw [if_pos hv_132] at eze
                        rw [if_neg hv_133] at eze
                        subst eze
                        exact kz
                    · refine own_via (fun _ => XS.icmpYes X_130.here hx rfl (pc0 := 289) (pc' := 317) rfl (hb hby at_289) rfl (feq (hv_132 : ¬ (c1 = d1))).2 (by decide) (by decide)) ?_
                      show own_Go p e below _ (T_130.setTop (mkF m 317 #[.val (.long q1), .second, .val (.long q2), .second, .val (.int p3), .val (.int p4), .val (.int c0), .val (.int c1), .val (.int c2), .val (.int c3), .val (.int c4), .val (.int d0), .val (.int d1), .val (.int d2), .val (.int d3), .val (.int d4), .val (.ref b_31), .val (.int (p4 &&& (3 : Int32))), .val (.ref b_102), .unset] []))
                      refine own_via (fun _ => XS.iconst X_130.here hx rfl (hb hby at_317)) ?_
                      show own_Go p e below _ (T_130.setTop (mkF m 318 #[.val (.long q1), .second, .val (.long q2), .second, .val (.int p3), .val (.int p4), .val (.int c0), .val (.int c1), .val (.int c2), .val (.int c3), .val (.int c4), .val (.int d0), .val (.int d1), .val (.int d2), .val (.int d3), .val (.int d4), .val (.ref b_31), .val (.int (p4 &&& (3 : Int32))), .val (.ref b_102), .unset] [(.int (0 : Int32))]))
                      rw [if_pos hv_131] at eze
                      rw [if_neg hv_132] at eze
                      subst eze
                      exact kz
                  · refine own_via (fun _ => XS.icmpYes X_130.here hx rfl (pc0 := 282) (pc' := 317) rfl (hb hby at_282) rfl (feq (hv_131 : ¬ (c0 = d0))).2 (by decide) (by decide)) ?_
                    show own_Go p e below _ (T_130.setTop (mkF m 317 #[.val (.long q1), .second, .val (.long q2), .second, .val (.int p3), .val (.int p4), .val (.int c0), .val (.int c1), .val (.int c2), .val (.int c3), .val (.int c4), .val (.int d0), .val (.int d1), .val (.int d2), .val (.int d3), .val (.int d4), .val (.ref b_31), .val (.int (p4 &&& (3 : Int32))), .val (.ref b_102), .unset] []))
                    refine own_via (fun _ => XS.iconst X_130.here hx rfl (hb hby at_317)) ?_
                    show own_Go p e below _ (T_130.setTop (mkF m 318 #[.val (.long q1), .second, .val (.long q2), .second, .val (.int p3), .val (.int p4), .val (.int c0), .val (.int c1), .val (.int c2), .val (.int c3), .val (.int c4), .val (.int d0), .val (.int d1), .val (.int d2), .val (.int d3), .val (.int d4), .val (.ref b_31), .val (.int (p4 &&& (3 : Int32))), .val (.ref b_102), .unset] [(.int (0 : Int32))]))
                    rw [if_neg hv_131] at eze
                    subst eze
                    exact kz
                show own_Go p e below _ (T_130.setTop (mkF m 318 #[.val (.long q1), .second, .val (.long q2), .second, .val (.int p3), .val (.int p4), .val (.int c0), .val (.int c1), .val (.int c2), .val (.int c3), .val (.int c4), .val (.int d0), .val (.int d1), .val (.int d2), .val (.int d3), .val (.int d4), .val (.ref b_31), .val (.int (p4 &&& (3 : Int32))), .val (.ref b_102), .unset] [(.int ze)]))
                refine own_via (fun _ => XS.istore X_130.here hx rfl (hb hby at_318) rfl (l' := #[.val (.long q1), .second, .val (.long q2), .second, .val (.int p3), .val (.int p4), .val (.int c0), .val (.int c1), .val (.int c2), .val (.int c3), .val (.int c4), .val (.int d0), .val (.int d1), .val (.int d2), .val (.int d3), .val (.int d4), .val (.ref b_31), .val (.int (p4 &&& (3 : Int32))), .val (.ref b_102), .val (.int ze)]) rfl) ?_
                show own_Go p e below _ (T_130.setTop (mkF m 320 #[.val (.long q1), .second, .val (.long q2), .second, .val (.int p3), .val (.int p4), .val (.int c0), .val (.int c1), .val (.int c2), .val (.int c3), .val (.int c4), .val (.int d0), .val (.int d1), .val (.int d2), .val (.int d3), .val (.int d4), .val (.ref b_31), .val (.int (p4 &&& (3 : Int32))), .val (.ref b_102), .val (.int ze)] []))
                refine own_via (fun _ => XS.aload X_130.here hx rfl (hb hby at_320) rfl rfl) ?_
                show own_Go p e below _ (T_130.setTop (mkF m 322 #[.val (.long q1), .second, .val (.long q2), .second, .val (.int p3), .val (.int p4), .val (.int c0), .val (.int c1), .val (.int c2), .val (.int c3), .val (.int c4), .val (.int d0), .val (.int d1), .val (.int d2), .val (.int d3), .val (.int d4), .val (.ref b_31), .val (.int (p4 &&& (3 : Int32))), .val (.ref b_102), .val (.int ze)] [(.ref b_31)]))
                refine own_via (fun _ => XS.aload X_130.here hx rfl (hb hby at_322) rfl rfl) ?_
                show own_Go p e below _ (T_130.setTop (mkF m 324 #[.val (.long q1), .second, .val (.long q2), .second, .val (.int p3), .val (.int p4), .val (.int c0), .val (.int c1), .val (.int c2), .val (.int c3), .val (.int c4), .val (.int d0), .val (.int d1), .val (.int d2), .val (.int d3), .val (.int d4), .val (.ref b_31), .val (.int (p4 &&& (3 : Int32))), .val (.ref b_102), .val (.int ze)] [(.ref b_102), (.ref b_31)]))
                have K_136 : Keep h_102 T_130.heap [b_102] := Keep.trans (ws := [b_102]) (own_keep_mono K_128 (by simp)) K_130q (allS (Or.inl (List.mem_of_getElem? (i := 0) rfl)) all0)
                have K_137 : Keep T_58.heap h_102 [] := (Keep.refl T_58.heap []).ext E_102
                have K_138 : Keep T_58.heap T_110.heap [] := Keep.trans (ws := []) K_137 K_110q all0
                have K_139 : Keep T_58.heap T_113.heap [] := Keep.trans (ws := []) K_138 K_113q all0
                have K_140 : Keep T_58.heap T_116.heap [] := Keep.trans (ws := []) K_139 K_116q all0
                have K_141 : Keep T_58.heap T_119.heap [] := Keep.trans (ws := []) K_140 K_119q all0
                have K_142 : Keep T_58.heap T_122.heap [] := Keep.trans (ws := []) K_141 K_122q all0
                have K_143 : Keep T_58.heap T_130.heap [] := Keep.trans (ws := []) K_142 K_130q (allS (Or.inr (Nat.le_of_eq g_102.symm)) all0)
                have K_144 : Keep T_38.heap T_41.heap [] := Keep.trans (ws := []) (Keep.refl T_38.heap []) K_41q all0
                have K_145 : Keep T_38.heap T_44.heap [] := Keep.trans (ws := []) K_144 K_44q all0
                have K_146 : Keep T_38.heap T_47.heap [] := Keep.trans (ws := []) K_145 K_47q all0
                have K_147 : Keep T_38.heap T_50.heap [] := Keep.trans (ws := []) K_146 K_50q all0
                have K_148 : Keep T_38.heap T_58.heap [b_31] := Keep.trans (ws := [b_31]) (own_keep_mono K_147 (by simp)) K_58q (allS (Or.inl (List.mem_of_getElem? (i := 0) rfl)) all0)
                have K_149 : Keep T_38.heap h_102 [b_31] := K_148.ext E_102
                have K_150 : Keep T_38.heap T_110.heap [b_31] := Keep.trans (ws := [b_31]) K_149 K_110q all0
                have K_151 : Keep T_38.heap T_113.heap [b_31] := Keep.trans (ws := [b_31]) K_150 K_113q all0
                have K_152 : Keep T_38.heap T_116.heap [b_31] := Keep.trans (ws := [b_31]) K_151 K_116q all0
                have K_153 : Keep T_38.heap T_119.heap [b_31] := Keep.trans (ws := [b_31]) K_152 K_119q all0
                have K_154 : Keep T_38.heap T_122.heap [b_31] := Keep.trans (ws := [b_31]) K_153 K_122q all0
                have K_155 : Keep T_38.heap T_130.heap [b_31] := Keep.trans (ws := [b_31]) K_154 K_130q (allS (Or.inr (Nat.le_trans K_148.1 (Nat.le_of_eq g_102.symm))) all0)
                have K_156 : Keep T_41.heap T_44.heap [] := Keep.trans (ws := []) (Keep.refl T_41.heap []) K_44q all0
                have K_157 : Keep T_41.heap T_47.heap [] := Keep.trans (ws := []) K_156 K_47q all0
                have K_158 : Keep T_41.heap T_50.heap [] := Keep.trans (ws := []) K_157 K_50q all0
                have K_159 : Keep T_41.heap T_58.heap [b_31] := Keep.trans (ws := [b_31]) (own_keep_mono K_158 (by simp)) K_58q (allS (Or.inl (List.mem_of_getElem? (i := 0) rfl)) all0)
                have K_160 : Keep T_41.heap h_102 [b_31] := K_159.ext E_102
                have K_161 : Keep T_41.heap T_110.heap [b_31] := Keep.trans (ws := [b_31]) K_160 K_110q all0
                have K_162 : Keep T_41.heap T_113.heap [b_31] := Keep.trans (ws := [b_31]) K_161 K_113q all0
                have K_163 : Keep T_41.heap T_116.heap [b_31] := Keep.trans (ws := [b_31]) K_162 K_116q all0
                have K_164 : Keep T_41.heap T_119.heap [b_31] := Keep.trans (ws := [b_31]) K_163 K_119q all0
                have K_165 : Keep T_41.heap T_122.heap [b_31] := Keep.trans (ws := [b_31]) K_164 K_122q all0
                have K_166 : Keep T_41.heap T_130.heap [b_31] := Keep.trans (ws := [b_31]) K_165 K_130q (allS (Or.inr (Nat.le_trans K_159.1 (Nat.le_of_eq g_102.symm))) all0)
                have K_167 : Keep T_44.heap T_47.heap [] := Keep.trans (ws := []) (Keep.refl T_44.heap []) K_47q all0
                have K_168 : Keep T_44.heap T_50.heap [] := Keep.trans (ws := []) K_167 K_50q all0
                have K_169 : Keep T_44.heap T_58.heap [b_31] := Keep.trans (ws := [b_31]) (own_keep_mono K_168 (by simp)) K_58q (allS (Or.inl (List.mem_of_getElem? (i := 0) rfl)) all0)
                have K_170 : Keep T_44.heap h_102 [b_31] := K_169.ext E_102
                have K_171 : Keep T_44.heap T_110.heap [b_31] := Keep.trans (ws := [b_31]) K_170 K_110q all0
                have K_172 : Keep T_44.heap T_113.heap [b_31] := Keep.trans (ws := [b_31]) K_171 K_113q all0
                have K_173 : Keep T_44.heap T_116.heap [b_31] := Keep.trans (ws := [b_31]) K_172 K_116q all0
                have K_174 : Keep T_44.heap T_119.heap [b_31] := Keep.trans (ws := [b_31]) K_173 K_119q all0
                have K_175 : Keep T_44.heap T_122.heap [b_31] := Keep.trans (ws := [b_31]) K_174 K_122q all0
                have K_176 : Keep T_44.heap T_130.heap [b_31] := Keep.trans (ws := [b_31]) K_175 K_130q (allS (Or.inr (Nat.le_trans K_169.1 (Nat.le_of_eq g_102.symm))) all0)
                have K_177 : Keep T_47.heap T_50.heap [] := Keep.trans (ws := []) (Keep.refl T_47.heap []) K_50q all0
                have K_178 : Keep T_47.heap T_58.heap [b_31] := Keep.trans (ws := [b_31]) (own_keep_mono K_177 (by simp)) K_58q (allS (Or.inl (List.mem_of_getElem? (i := 0) rfl)) all0)
                have K_179 : Keep T_47.heap h_102 [b_31] := K_178.ext E_102
                have K_180 : Keep T_47.heap T_110.heap [b_31] := Keep.trans (ws := [b_31]) K_179 K_110q all0
                have K_181 : Keep T_47.heap T_113.heap [b_31] := Keep.trans (ws := [b_31]) K_180 K_113q all0
                have K_182 : Keep T_47.heap T_116.heap [b_31] := Keep.trans (ws := [b_31]) K_181 K_116q all0
                have K_183 : Keep T_47.heap T_119.heap [b_31] := Keep.trans (ws := [b_31]) K_182 K_119q all0
                have K_184 : Keep T_47.heap T_122.heap [b_31] := Keep.trans (ws := [b_31]) K_183 K_122q all0
                have K_185 : Keep T_47.heap T_130.heap [b_31] := Keep.trans (ws := [b_31]) K_184 K_130q (allS (Or.inr (Nat.le_trans K_178.1 (Nat.le_of_eq g_102.symm))) all0)
                have K_186 : Keep T_50.heap T_58.heap [b_31] := Keep.trans (ws := [b_31]) (own_keep_mono (Keep.refl T_50.heap []) (by simp)) K_58q (allS (Or.inl (List.mem_of_getElem? (i := 0) rfl)) all0)
                have K_187 : Keep T_50.heap h_102 [b_31] := K_186.ext E_102
                have K_188 : Keep T_50.heap T_110.heap [b_31] := Keep.trans (ws := [b_31]) K_187 K_110q all0
                have K_189 : Keep T_50.heap T_113.heap [b_31] := Keep.trans (ws := [b_31]) K_188 K_113q all0
                have K_190 : Keep T_50.heap T_116.heap [b_31] := Keep.trans (ws := [b_31]) K_189 K_116q all0
                have K_191 : Keep T_50.heap T_119.heap [b_31] := Keep.trans (ws := [b_31]) K_190 K_119q all0
                have K_192 : Keep T_50.heap T_122.heap [b_31] := Keep.trans (ws := [b_31]) K_191 K_122q all0
                have K_193 : Keep T_50.heap T_130.heap [b_31] := Keep.trans (ws := [b_31]) K_192 K_130q (allS (Or.inr (Nat.le_trans K_186.1 (Nat.le_of_eq g_102.symm))) all0)
                have K_194 : Keep T_110.heap T_113.heap [] := Keep.trans (ws := []) (Keep.refl T_110.heap []) K_113q all0
                have K_195 : Keep T_110.heap T_116.heap [] := Keep.trans (ws := []) K_194 K_116q all0
                have K_196 : Keep T_110.heap T_119.heap [] := Keep.trans (ws := []) K_195 K_119q all0
                have K_197 : Keep T_110.heap T_122.heap [] := Keep.trans (ws := []) K_196 K_122q all0
                have K_198 : Keep T_110.heap T_130.heap [b_102] := Keep.trans (ws := [b_102]) (own_keep_mono K_197 (by simp)) K_130q (allS (Or.inl (List.mem_of_getElem? (i := 0) rfl)) all0)
                have K_199 : Keep T_113.heap T_116.heap [] := Keep.trans (ws := []) (Keep.refl T_113.heap []) K_116q all0
                have K_200 : Keep T_113.heap T_119.heap [] := Keep.trans (ws := []) K_199 K_119q all0
                have K_201 : Keep T_113.heap T_122.heap [] := Keep.trans (ws := []) K_200 K_122q all0
                have K_202 : Keep T_113.heap T_130.heap [b_102] := Keep.trans (ws := [b_102]) (own_keep_mono K_201 (by simp)) K_130q (allS (Or.inl (List.mem_of_getElem? (i := 0) rfl)) all0)
                have K_203 : Keep T_116.heap T_119.heap [] := Keep.trans (ws := []) (Keep.refl T_116.heap []) K_119q all0
                have K_204 : Keep T_116.heap T_122.heap [] := Keep.trans (ws := []) K_203 K_122q all0
                have K_205 : Keep T_116.heap T_130.heap [b_102] := Keep.trans (ws := [b_102]) (own_keep_mono K_204 (by simp)) K_130q (allS (Or.inl (List.mem_of_getElem? (i := 0) rfl)) all0)
                have K_206 : Keep T_119.heap T_122.heap [] := Keep.trans (ws := []) (Keep.refl T_119.heap []) K_122q all0
                have K_207 : Keep T_119.heap T_130.heap [b_102] := Keep.trans (ws := [b_102]) (own_keep_mono K_206 (by simp)) K_130q (allS (Or.inl (List.mem_of_getElem? (i := 0) rfl)) all0)
                have K_208 : Keep T_122.heap T_130.heap [b_102] := Keep.trans (ws := [b_102]) (own_keep_mono (Keep.refl T_122.heap []) (by simp)) K_130q (allS (Or.inl (List.mem_of_getElem? (i := 0) rfl)) all0)
                have K_209 : Keep h0 T_130.heap [] := Keep.trans (ws := []) K_129 K_130q (allS (Or.inr (Nat.le_trans K_108.1 (Nat.le_of_eq g_102.symm))) all0)
                have K_211 : Keep h_31 T_58.heap [b_31] := Keep.trans (ws := [b_31]) (own_keep_mono K_56 (by simp)) K_58q (allS (Or.inl (List.mem_of_getElem? (i := 0) rfl)) all0)
                have K_212 : Keep h_31 h_102 [b_31] := K_211.ext E_102
                have K_213 : Keep h_31 T_110.heap [b_31] := Keep.trans (ws := [b_31]) K_212 K_110q all0
                have K_214 : Keep h_31 T_113.heap [b_31] := Keep.trans (ws := [b_31]) K_213 K_113q all0
                have K_215 : Keep h_31 T_116.heap [b_31] := Keep.trans (ws := [b_31]) K_214 K_116q all0
                have K_216 : Keep h_31 T_119.heap [b_31] := Keep.trans (ws := [b_31]) K_215 K_119q all0
                have K_217 : Keep h_31 T_122.heap [b_31] := Keep.trans (ws := [b_31]) K_216 K_122q all0
                have K_218 : Keep h_31 T_130.heap [b_31] := Keep.trans (ws := [b_31]) K_217 K_130q (allS (Or.inr (Nat.le_trans K_211.1 (Nat.le_of_eq g_102.symm))) all0)
                obtain ⟨cq_210, kq_210, q_210a, q_210b, q_210c⟩ := isOf hZ rfl (A_31.keep K_218)
                obtain ⟨_, _, ⟨T_210, L_210, k_210, n_210⟩, -, X_210, ⟨Lc_210, hQ_210, l_210, y_210, z_210⟩, st_210⟩ := X_130.virtualBack hx (y := (⟨"com/example/kworum/kworum/model/Entry", "equals", "(Ljava/lang/Object;)Z"⟩ : MethodName)) (z := (⟨"com/example/kworum/kworum/model/Entry", "equals", "(Ljava/lang/Object;)Z"⟩ : MethodName)) hown (mvT hZ (own_w hw 75 rfl)) (mvT hZ (own_w hw 76 rfl)) (notFace_of_selects (args := #[]) (mvT hZ (own_w hw 78 rfl))) (mvT hZ (own_w hw 78 rfl)) (mvT hZ (own_w hw 77 rfl)) (by decide) (backOf (W := 0) (rmeqE l Z a0 hw [] b_31 b_102 r_39 r_42 r_45 r_48 r_51 r_111 r_114 r_117 r_120 r_123 c0 c1 c2 c3 c4 d0 d1 d2 d3 d4 cs T_130.heap n0 (Nat.le_trans Z0 K_209.1) (O0.keep K_209 all0) Scs hcs (A_102.keep K_136) (q_58_0.keep K_143 nin0) (q_58_1.keep K_143 nin0) (q_58_2.keep K_143 nin0) (q_58_3.keep K_143 nin0) (q_58_4.keep K_143 nin0) q_130_0 q_130_1 q_130_2 q_130_3 q_130_4 (q_38_2.keepO K_155 (own_offS (A_31.keep K_52) (by decide) (own_w hw 6 rfl) own_off0)) (q_41_2.keepO K_166 (own_offS (A_31.keep K_53) (by decide) (own_w hw 6 rfl) own_off0)) (q_44_2.keepO K_176 (own_offS (A_31.keep K_54) (by decide) (own_w hw 6 rfl) own_off0)) (q_47_2.keepO K_185 (own_offS (A_31.keep K_55) (by decide) (own_w hw 6 rfl) own_off0)) (q_50_2.keepO K_193 (own_offS (A_31.keep K_56) (by decide) (own_w hw 6 rfl) own_off0)) (q_110_2.keepO K_198 (own_offS (A_102.keep K_124) (by decide) (own_w hw 6 rfl) own_off0)) (q_113_2.keepO K_202 (own_offS (A_102.keep K_125) (by decide) (own_w hw 6 rfl) own_off0)) (q_116_2.keepO K_205 (own_offS (A_102.keep K_126) (by decide) (own_w hw 6 rfl) own_off0)) (q_119_2.keepO K_207 (own_offS (A_102.keep K_127) (by decide) (own_w hw 6 rfl) own_off0)) (q_122_2.keepO K_208 (own_offS (A_102.keep K_128) (by decide) (own_w hw 6 rfl) own_off0))) hZ (own_w hw 79 rfl) (own_w hw 7 rfl) (by decide) (by decide)) q_210a q_210c (g := (mkF m 324 #[.val (.long q1), .second, .val (.long q2), .second, .val (.int p3), .val (.int p4), .val (.int c0), .val (.int c1), .val (.int c2), .val (.int c3), .val (.int c4), .val (.int d0), .val (.int d1), .val (.int d2), .val (.int d3), .val (.int d4), .val (.ref b_31), .val (.int (p4 &&& (3 : Int32))), .val (.ref b_102), .val (.int ze)] [(.ref b_102), (.ref b_31)])) rfl (by rw [hml]; rfl) (Steps.refl _) (argsL := [(.ref b_102)]) (rest := []) (lenOf pd_3 rfl) rfl (by show 2 * 0 + _ ≤ _; exact Nat.le_of_eq rfl) (hb hby at_324) (fun _ _ => ⟨rfl, rfl, (by decide : 32 + 0 ≤ _), (by decide : 70 + 0 ≤ _)⟩)
                dsimp only [Pt.U, Pt.locs, Pt.cells, Pt.slots] at X_210 l_210 y_210 z_210 st_210 hQ_210
                subst l_210 y_210 z_210
                obtain ⟨i_219, rfl, Nq_210, e_210, q_210_0⟩ := hQ_210
                have N_210 := Fr.app N_130 Nq_210
                refine own_via (fun _ k => st_210.trans k) ?_
                show own_Go p e below _ (T_210.setTop (mkF m 327 #[.val (.long q1), .second, .val (.long q2), .second, .val (.int p3), .val (.int p4), .val (.int c0), .val (.int c1), .val (.int c2), .val (.int c3), .val (.int c4), .val (.int d0), .val (.int d1), .val (.int d2), .val (.int d3), .val (.int d4), .val (.ref b_31), .val (.int (p4 &&& (3 : Int32))), .val (.ref b_102), .val (.int ze)] [(.int i_219)]))
                refine own_via (fun _ => XS.iload X_210.here hx rfl (hb hby at_327) rfl) ?_
                show own_Go p e below _ (T_210.setTop (mkF m 329 #[.val (.long q1), .second, .val (.long q2), .second, .val (.int p3), .val (.int p4), .val (.int c0), .val (.int c1), .val (.int c2), .val (.int c3), .val (.int c4), .val (.int d0), .val (.int d1), .val (.int d2), .val (.int d3), .val (.int d4), .val (.ref b_31), .val (.int (p4 &&& (3 : Int32))), .val (.ref b_102), .val (.int ze)] [(.int ze), (.int i_219)]))
                refine own_via (fun _ => XS.icmpNo X_210.here hx rfl (hb hby at_329) rfl (teq (own_fin eze q_210_0 : i_219 = ze)).2) ?_
                show own_Go p e below _ (T_210.setTop (mkF m 332 #[.val (.long q1), .second, .val (.long q2), .second, .val (.int p3), .val (.int p4), .val (.int c0), .val (.int c1), .val (.int c2), .val (.int c3), .val (.int c4), .val (.int d0), .val (.int d1), .val (.int d2), .val (.int d3), .val (.int d4), .val (.ref b_31), .val (.int (p4 &&& (3 : Int32))), .val (.ref b_102), .val (.int ze)] []))
                refine own_via (fun _ => XS.aload X_210.here hx rfl (hb hby at_332) rfl rfl) ?_
                show own_Go p e below _ (T_210.setTop (mkF m 334 #[.val (.long q1), .second, .val (.long q2), .second, .val (.int p3), .val (.int p4), .val (.int c0), .val (.int c1), .val (.int c2), .val (.int c3), .val (.int c4), .val (.int d0), .val (.int d1), .val (.int d2), .val (.int d3), .val (.int d4), .val (.ref b_31), .val (.int (p4 &&& (3 : Int32))), .val (.ref b_102), .val (.int ze)] [(.ref b_102)]))
                refine own_via (fun _ => XS.aload X_210.here hx rfl (hb hby at_334) rfl rfl) ?_
                show own_Go p e below _ (T_210.setTop (mkF m 336 #[.val (.long q1), .second, .val (.long q2), .second, .val (.int p3), .val (.int p4), .val (.int c0), .val (.int c1), .val (.int c2), .val (.int c3), .val (.int c4), .val (.int d0), .val (.int d1), .val (.int d2), .val (.int d3), .val (.int d4), .val (.ref b_31), .val (.int (p4 &&& (3 : Int32))), .val (.ref b_102), .val (.int ze)] [(.ref b_31), (.ref b_102)]))
                obtain ⟨cq_220, kq_220, q_220a, q_220b, q_220c⟩ := isOf hZ e_210 (A_102.keep K_136)
                obtain ⟨_, _, ⟨T_220, L_220, k_220, n_220⟩, -, X_220, ⟨Lc_220, hQ_220, l_220, y_220, z_220⟩, st_220⟩ := X_210.virtualBack hx (y := (⟨"com/example/kworum/kworum/model/Entry", "equals", "(Ljava/lang/Object;)Z"⟩ : MethodName)) (z := (⟨"com/example/kworum/kworum/model/Entry", "equals", "(Ljava/lang/Object;)Z"⟩ : MethodName)) hown (mvT hZ (own_w hw 75 rfl)) (mvT hZ (own_w hw 76 rfl)) (notFace_of_selects (args := #[]) (mvT hZ (own_w hw 78 rfl))) (mvT hZ (own_w hw 78 rfl)) (mvT hZ (own_w hw 77 rfl)) (by decide) (backOf (W := 0) (rmeqE l Z a0 hw [] b_102 b_31 r_111 r_114 r_117 r_120 r_123 r_39 r_42 r_45 r_48 r_51 d0 d1 d2 d3 d4 c0 c1 c2 c3 c4 cs T_130.heap n0 (Nat.le_trans Z0 K_209.1) (O0.keep K_209 all0) Scs hcs (A_31.keep K_218) q_130_0 q_130_1 q_130_2 q_130_3 q_130_4 (q_58_0.keep K_143 nin0) (q_58_1.keep K_143 nin0) (q_58_2.keep K_143 nin0) (q_58_3.keep K_143 nin0) (q_58_4.keep K_143 nin0) (q_110_2.keepO K_198 (own_offS (A_102.keep K_124) (by decide) (own_w hw 6 rfl) own_off0)) (q_113_2.keepO K_202 (own_offS (A_102.keep K_125) (by decide) (own_w hw 6 rfl) own_off0)) (q_116_2.keepO K_205 (own_offS (A_102.keep K_126) (by decide) (own_w hw 6 rfl) own_off0)) (q_119_2.keepO K_207 (own_offS (A_102.keep K_127) (by decide) (own_w hw 6 rfl) own_off0)) (q_122_2.keepO K_208 (own_offS (A_102.keep K_128) (by decide) (own_w hw 6 rfl) own_off0)) (q_38_2.keepO K_155 (own_offS (A_31.keep K_52) (by decide) (own_w hw 6 rfl) own_off0)) (q_41_2.keepO K_166 (own_offS (A_31.keep K_53) (by decide) (own_w hw 6 rfl) own_off0)) (q_44_2.keepO K_176 (own_offS (A_31.keep K_54) (by decide) (own_w hw 6 rfl) own_off0)) (q_47_2.keepO K_185 (own_offS (A_31.keep K_55) (by decide) (own_w hw 6 rfl) own_off0)) (q_50_2.keepO K_193 (own_offS (A_31.keep K_56) (by decide) (own_w hw 6 rfl) own_off0))) hZ (own_w hw 79 rfl) (own_w hw 7 rfl) (by decide) (by decide)) q_220a q_220c (g := (mkF m 336 #[.val (.long q1), .second, .val (.long q2), .second, .val (.int p3), .val (.int p4), .val (.int c0), .val (.int c1), .val (.int c2), .val (.int c3), .val (.int c4), .val (.int d0), .val (.int d1), .val (.int d2), .val (.int d3), .val (.int d4), .val (.ref b_31), .val (.int (p4 &&& (3 : Int32))), .val (.ref b_102), .val (.int ze)] [(.ref b_31), (.ref b_102)])) rfl (by rw [hml]; rfl) (Steps.refl _) (argsL := [(.ref b_31)]) (rest := []) (lenOf pd_3 rfl) rfl (by show 2 * 0 + _ ≤ _; exact Nat.le_of_eq rfl) (hb hby at_336) (fun _ _ => ⟨rfl, e_210, (by decide : 32 + 0 ≤ _), (by decide : 70 + 0 ≤ _)⟩)
                dsimp only [Pt.U, Pt.locs, Pt.cells, Pt.slots] at X_220 l_220 y_220 z_220 st_220 hQ_220
                subst l_220 y_220 z_220
                obtain ⟨i_221, rfl, Nq_220, e_220, q_220_0⟩ := hQ_220
                have N_220 := Fr.app N_210 Nq_220
                refine own_via (fun _ k => st_220.trans k) ?_
                show own_Go p e below _ (T_220.setTop (mkF m 339 #[.val (.long q1), .second, .val (.long q2), .second, .val (.int p3), .val (.int p4), .val (.int c0), .val (.int c1), .val (.int c2), .val (.int c3), .val (.int c4), .val (.int d0), .val (.int d1), .val (.int d2), .val (.int d3), .val (.int d4), .val (.ref b_31), .val (.int (p4 &&& (3 : Int32))), .val (.ref b_102), .val (.int ze)] [(.int i_221)]))
                refine own_via (fun _ => XS.iload X_220.here hx rfl (hb hby at_339) rfl) ?_
                show own_Go p e below _ (T_220.setTop (mkF m 341 #[.val (.long q1), .second, .val (.long q2), .second, .val (.int p3), .val (.int p4), .val (.int c0), .val (.int c1), .val (.int c2), .val (.int c3), .val (.int c4), .val (.int d0), .val (.int d1), .val (.int d2), .val (.int d3), .val (.int d4), .val (.ref b_31), .val (.int (p4 &&& (3 : Int32))), .val (.ref b_102), .val (.int ze)] [(.int ze), (.int i_221)]))
                refine own_via (fun _ => XS.icmpNo X_220.here hx rfl (hb hby at_341) rfl (teq (own_fin' eze q_220_0 : i_221 = ze)).2) ?_
                show own_Go p e below _ (T_220.setTop (mkF m 344 #[.val (.long q1), .second, .val (.long q2), .second, .val (.int p3), .val (.int p4), .val (.int c0), .val (.int c1), .val (.int c2), .val (.int c3), .val (.int c4), .val (.int d0), .val (.int d1), .val (.int d2), .val (.int d3), .val (.int d4), .val (.ref b_31), .val (.int (p4 &&& (3 : Int32))), .val (.ref b_102), .val (.int ze)] []))
                refine own_via (fun _ => XS.iconst X_220.here hx rfl (hb hby at_344)) ?_
                show own_Go p e below _ (T_220.setTop (mkF m 345 #[.val (.long q1), .second, .val (.long q2), .second, .val (.int p3), .val (.int p4), .val (.int c0), .val (.int c1), .val (.int c2), .val (.int c3), .val (.int c4), .val (.int d0), .val (.int d1), .val (.int d2), .val (.int d3), .val (.int d4), .val (.ref b_31), .val (.int (p4 &&& (3 : Int32))), .val (.ref b_102), .val (.int ze)] [(.int (1 : Int32))]))
                refine own_via (fun _ => XS.goto X_220.here hx rfl (pc0 := 345) (pc' := 349) rfl (hb hby at_345) (by decide) (by decide)) ?_
                show own_Go p e below _ (T_220.setTop (mkF m 349 #[.val (.long q1), .second, .val (.long q2), .second, .val (.int p3), .val (.int p4), .val (.int c0), .val (.int c1), .val (.int c2), .val (.int c3), .val (.int c4), .val (.int d0), .val (.int d1), .val (.int d2), .val (.int d3), .val (.int d4), .val (.ref b_31), .val (.int (p4 &&& (3 : Int32))), .val (.ref b_102), .val (.int ze)] [(.int (1 : Int32))]))
                exact own_retv X_220 Bd.notSynchronized hx Bd.returns rfl (Or.inl ⟨rfl, (by simp), _, rfl⟩) (hb hby at_349) (by decide) (by decide) (by rw [e_220]; exact ⟨rfl, N_220, K_209⟩)
          by_cases hm4 : (p3 &&& (16 : Int32)) = (0 : Int32)
          · refine own_via (fun _ => XS.ifYes X_25.here hx rfl (pc0 := 117) (pc' := 125) rfl (hb hby at_117) rfl ((if0 _ _).trans (teq (hm4 : (p3 &&& (16 : Int32)) = (0 : Int32))).1) (by decide) (by decide)) ?_
            show own_Go p e below _ (T_22.setTop (mkF m 125 #[.val (.long q1), .second, .val (.long q2), .second, .val (.int p3), .val (.int p4), .val (.int c0), .val (.int c1), .val (.int c2), .val (.int c3), .val (.int c4), .val (.int d0), .val (.int d1), .val (.int d2), .val (.int d3), .unset, .unset, .unset, .unset, .unset] []))
            refine own_via (fun _ => XS.lloadN X_25.here hx rfl (hb hby at_125) rfl) ?_
            show own_Go p e below _ (T_22.setTop (mkF m 126 #[.val (.long q1), .second, .val (.long q2), .second, .val (.int p3), .val (.int p4), .val (.int c0), .val (.int c1), .val (.int c2), .val (.int c3), .val (.int c4), .val (.int d0), .val (.int d1), .val (.int d2), .val (.int d3), .unset, .unset, .unset, .unset, .unset] [(.long q2)]))
            refine own_via (fun _ => XS.iconst X_25.here hx rfl (hb hby at_126)) ?_
            show own_Go p e below _ (T_22.setTop (mkF m 127 #[.val (.long q1), .second, .val (.long q2), .second, .val (.int p3), .val (.int p4), .val (.int c0), .val (.int c1), .val (.int c2), .val (.int c3), .val (.int c4), .val (.int d0), .val (.int d1), .val (.int d2), .val (.int d3), .unset, .unset, .unset, .unset, .unset] [(.int (4 : Int32)), (.long q2)]))
            obtain ⟨_, _, ⟨T_222, L_222, k_222, n_222⟩, -, X_222, ⟨Lc_222, hQ_222, l_222, y_222, z_222⟩, st_222⟩ := Jvm.LawKit.callS X_25 hx (y := (⟨"com/example/kworum/kworum/model/EntryEqualsPinLaw", "ch", "(JI)C"⟩ : MethodName)) hown (mvT hZ (own_w hw 0 rfl)) (mvT hZ (own_w hw 1 rfl)) (mvT hZ (own_w hw 2 rfl)) (mvT hZ (own_w hw 3 rfl)) (by decide) (backOf (W := 0) (rmch l Z a0 hw [] q2 (4 : Int32) h0 n0 Z0 ) hZ (own_w hw 3 rfl) (own_w hw 2 rfl) (by decide) (by decide)) (g := (mkF m 127 #[.val (.long q1), .second, .val (.long q2), .second, .val (.int p3), .val (.int p4), .val (.int c0), .val (.int c1), .val (.int c2), .val (.int c3), .val (.int c4), .val (.int d0), .val (.int d1), .val (.int d2), .val (.int d3), .unset, .unset, .unset, .unset, .unset] [(.int (4 : Int32)), (.long q2)])) rfl (by rw [hml]; rfl) (argsL := [(.long q2), (.int (4 : Int32))]) (rest := []) (lenOf pd_4 rfl) rfl (by show 2 * 0 + _ ≤ _; exact Nat.le_of_eq rfl) (hb hby at_127) (fun _ _ => ⟨rfl, e_25, (by decide : 0 + 0 ≤ _), (by decide : 0 + 0 ≤ _)⟩)
            dsimp only [Pt.U, Pt.locs, Pt.cells, Pt.slots] at X_222 l_222 y_222 z_222 st_222 hQ_222
            subst l_222 y_222 z_222
            obtain ⟨i_223, rfl, Nq_222, e_222, q_222_0⟩ := hQ_222
            have N_222 := Fr.app N_25 Nq_222
            refine own_via st_222 ?_
            show own_Go p e below _ (T_222.setTop (mkF m 130 #[.val (.long q1), .second, .val (.long q2), .second, .val (.int p3), .val (.int p4), .val (.int c0), .val (.int c1), .val (.int c2), .val (.int c3), .val (.int c4), .val (.int d0), .val (.int d1), .val (.int d2), .val (.int d3), .unset, .unset, .unset, .unset, .unset] [(.int i_223)]))
            exact kj_26 _ _ i_223 q_222_0 X_222 e_222 N_222
          · refine own_via (fun _ => XS.ifNo X_25.here hx rfl (hb hby at_117) rfl ((if0 _ _).trans (feq (hm4 : ¬ ((p3 &&& (16 : Int32)) = (0 : Int32)))).1)) ?_
            show own_Go p e below _ (T_22.setTop (mkF m 120 #[.val (.long q1), .second, .val (.long q2), .second, .val (.int p3), .val (.int p4), .val (.int c0), .val (.int c1), .val (.int c2), .val (.int c3), .val (.int c4), .val (.int d0), .val (.int d1), .val (.int d2), .val (.int d3), .unset, .unset, .unset, .unset, .unset] []))
            refine own_via (fun _ => XS.iload X_25.here hx rfl (hb hby at_120) rfl) ?_
            show own_Go p e below _ (T_22.setTop (mkF m 122 #[.val (.long q1), .second, .val (.long q2), .second, .val (.int p3), .val (.int p4), .val (.int c0), .val (.int c1), .val (.int c2), .val (.int c3), .val (.int c4), .val (.int d0), .val (.int d1), .val (.int d2), .val (.int d3), .unset, .unset, .unset, .unset, .unset] [(.int c4)]))
            refine own_via (fun _ => XS.goto X_25.here hx rfl (pc0 := 122) (pc' := 130) rfl (hb hby at_122) (by decide) (by decide)) ?_
            show own_Go p e below _ (T_22.setTop (mkF m 130 #[.val (.long q1), .second, .val (.long q2), .second, .val (.int p3), .val (.int p4), .val (.int c0), .val (.int c1), .val (.int c2), .val (.int c3), .val (.int c4), .val (.int d0), .val (.int d1), .val (.int d2), .val (.int d3), .unset, .unset, .unset, .unset, .unset] [(.int c4)]))
            exact kj_26 _ _ c4 q_5_0 X_25 e_25 N_25
        by_cases hm3 : (p3 &&& (8 : Int32)) = (0 : Int32)
        · refine own_via (fun _ => XS.ifYes X_20.here hx rfl (pc0 := 97) (pc' := 105) rfl (hb hby at_97) rfl ((if0 _ _).trans (teq (hm3 : (p3 &&& (8 : Int32)) = (0 : Int32))).1) (by decide) (by decide)) ?_
          show own_Go p e below _ (T_17.setTop (mkF m 105 #[.val (.long q1), .second, .val (.long q2), .second, .val (.int p3), .val (.int p4), .val (.int c0), .val (.int c1), .val (.int c2), .val (.int c3), .val (.int c4), .val (.int d0), .val (.int d1), .val (.int d2), .unset, .unset, .unset, .unset, .unset, .unset] []))
          refine own_via (fun _ => XS.lloadN X_20.here hx rfl (hb hby at_105) rfl) ?_
          show own_Go p e below _ (T_17.setTop (mkF m 106 #[.val (.long q1), .second, .val (.long q2), .second, .val (.int p3), .val (.int p4), .val (.int c0), .val (.int c1), .val (.int c2), .val (.int c3), .val (.int c4), .val (.int d0), .val (.int d1), .val (.int d2), .unset, .unset, .unset, .unset, .unset, .unset] [(.long q2)]))
          refine own_via (fun _ => XS.iconst X_20.here hx rfl (hb hby at_106)) ?_
          show own_Go p e below _ (T_17.setTop (mkF m 107 #[.val (.long q1), .second, .val (.long q2), .second, .val (.int p3), .val (.int p4), .val (.int c0), .val (.int c1), .val (.int c2), .val (.int c3), .val (.int c4), .val (.int d0), .val (.int d1), .val (.int d2), .unset, .unset, .unset, .unset, .unset, .unset] [(.int (3 : Int32)), (.long q2)]))
          obtain ⟨_, _, ⟨T_224, L_224, k_224, n_224⟩, -, X_224, ⟨Lc_224, hQ_224, l_224, y_224, z_224⟩, st_224⟩ := Jvm.LawKit.callS X_20 hx (y := (⟨"com/example/kworum/kworum/model/EntryEqualsPinLaw", "ch", "(JI)C"⟩ : MethodName)) hown (mvT hZ (own_w hw 0 rfl)) (mvT hZ (own_w hw 1 rfl)) (mvT hZ (own_w hw 2 rfl)) (mvT hZ (own_w hw 3 rfl)) (by decide) (backOf (W := 0) (rmch l Z a0 hw [] q2 (3 : Int32) h0 n0 Z0 ) hZ (own_w hw 3 rfl) (own_w hw 2 rfl) (by decide) (by decide)) (g := (mkF m 107 #[.val (.long q1), .second, .val (.long q2), .second, .val (.int p3), .val (.int p4), .val (.int c0), .val (.int c1), .val (.int c2), .val (.int c3), .val (.int c4), .val (.int d0), .val (.int d1), .val (.int d2), .unset, .unset, .unset, .unset, .unset, .unset] [(.int (3 : Int32)), (.long q2)])) rfl (by rw [hml]; rfl) (argsL := [(.long q2), (.int (3 : Int32))]) (rest := []) (lenOf pd_4 rfl) rfl (by show 2 * 0 + _ ≤ _; exact Nat.le_of_eq rfl) (hb hby at_107) (fun _ _ => ⟨rfl, e_20, (by decide : 0 + 0 ≤ _), (by decide : 0 + 0 ≤ _)⟩)
          dsimp only [Pt.U, Pt.locs, Pt.cells, Pt.slots] at X_224 l_224 y_224 z_224 st_224 hQ_224
          subst l_224 y_224 z_224
          obtain ⟨i_225, rfl, Nq_224, e_224, q_224_0⟩ := hQ_224
          have N_224 := Fr.app N_20 Nq_224
          refine own_via st_224 ?_
          show own_Go p e below _ (T_224.setTop (mkF m 110 #[.val (.long q1), .second, .val (.long q2), .second, .val (.int p3), .val (.int p4), .val (.int c0), .val (.int c1), .val (.int c2), .val (.int c3), .val (.int c4), .val (.int d0), .val (.int d1), .val (.int d2), .unset, .unset, .unset, .unset, .unset, .unset] [(.int i_225)]))
          exact kj_21 _ _ i_225 q_224_0 X_224 e_224 N_224
        · refine own_via (fun _ => XS.ifNo X_20.here hx rfl (hb hby at_97) rfl ((if0 _ _).trans (feq (hm3 : ¬ ((p3 &&& (8 : Int32)) = (0 : Int32)))).1)) ?_
          show own_Go p e below _ (T_17.setTop (mkF m 100 #[.val (.long q1), .second, .val (.long q2), .second, .val (.int p3), .val (.int p4), .val (.int c0), .val (.int c1), .val (.int c2), .val (.int c3), .val (.int c4), .val (.int d0), .val (.int d1), .val (.int d2), .unset, .unset, .unset, .unset, .unset, .unset] []))
          refine own_via (fun _ => XS.iload X_20.here hx rfl (hb hby at_100) rfl) ?_
          show own_Go p e below _ (T_17.setTop (mkF m 102 #[.val (.long q1), .second, .val (.long q2), .second, .val (.int p3), .val (.int p4), .val (.int c0), .val (.int c1), .val (.int c2), .val (.int c3), .val (.int c4), .val (.int d0), .val (.int d1), .val (.int d2), .unset, .unset, .unset, .unset, .unset, .unset] [(.int c3)]))
          refine own_via (fun _ => XS.goto X_20.here hx rfl (pc0 := 102) (pc' := 110) rfl (hb hby at_102) (by decide) (by decide)) ?_
          show own_Go p e below _ (T_17.setTop (mkF m 110 #[.val (.long q1), .second, .val (.long q2), .second, .val (.int p3), .val (.int p4), .val (.int c0), .val (.int c1), .val (.int c2), .val (.int c3), .val (.int c4), .val (.int d0), .val (.int d1), .val (.int d2), .unset, .unset, .unset, .unset, .unset, .unset] [(.int c3)]))
          exact kj_21 _ _ c3 q_4_0 X_20 e_20 N_20
      by_cases hm2 : (p3 &&& (4 : Int32)) = (0 : Int32)
      · refine own_via (fun _ => XS.ifYes X_15.here hx rfl (pc0 := 77) (pc' := 85) rfl (hb hby at_77) rfl ((if0 _ _).trans (teq (hm2 : (p3 &&& (4 : Int32)) = (0 : Int32))).1) (by decide) (by decide)) ?_
        show own_Go p e below _ (T_12.setTop (mkF m 85 #[.val (.long q1), .second, .val (.long q2), .second, .val (.int p3), .val (.int p4), .val (.int c0), .val (.int c1), .val (.int c2), .val (.int c3), .val (.int c4), .val (.int d0), .val (.int d1), .unset, .unset, .unset, .unset, .unset, .unset, .unset] []))
        refine own_via (fun _ => XS.lloadN X_15.here hx rfl (hb hby at_85) rfl) ?_
        show own_Go p e below _ (T_12.setTop (mkF m 86 #[.val (.long q1), .second, .val (.long q2), .second, .val (.int p3), .val (.int p4), .val (.int c0), .val (.int c1), .val (.int c2), .val (.int c3), .val (.int c4), .val (.int d0), .val (.int d1), .unset, .unset, .unset, .unset, .unset, .unset, .unset] [(.long q2)]))
        refine own_via (fun _ => XS.iconst X_15.here hx rfl (hb hby at_86)) ?_
        show own_Go p e below _ (T_12.setTop (mkF m 87 #[.val (.long q1), .second, .val (.long q2), .second, .val (.int p3), .val (.int p4), .val (.int c0), .val (.int c1), .val (.int c2), .val (.int c3), .val (.int c4), .val (.int d0), .val (.int d1), .unset, .unset, .unset, .unset, .unset, .unset, .unset] [(.int (2 : Int32)), (.long q2)]))
        obtain ⟨_, _, ⟨T_226, L_226, k_226, n_226⟩, -, X_226, ⟨Lc_226, hQ_226, l_226, y_226, z_226⟩, st_226⟩ := Jvm.LawKit.callS X_15 hx (y := (⟨"com/example/kworum/kworum/model/EntryEqualsPinLaw", "ch", "(JI)C"⟩ : MethodName)) hown (mvT hZ (own_w hw 0 rfl)) (mvT hZ (own_w hw 1 rfl)) (mvT hZ (own_w hw 2 rfl)) (mvT hZ (own_w hw 3 rfl)) (by decide) (backOf (W := 0) (rmch l Z a0 hw [] q2 (2 : Int32) h0 n0 Z0 ) hZ (own_w hw 3 rfl) (own_w hw 2 rfl) (by decide) (by decide)) (g := (mkF m 87 #[.val (.long q1), .second, .val (.long q2), .second, .val (.int p3), .val (.int p4), .val (.int c0), .val (.int c1), .val (.int c2), .val (.int c3), .val (.int c4), .val (.int d0), .val (.int d1), .unset, .unset, .unset, .unset, .unset, .unset, .unset] [(.int (2 : Int32)), (.long q2)])) rfl (by rw [hml]; rfl) (argsL := [(.long q2), (.int (2 : Int32))]) (rest := []) (lenOf pd_4 rfl) rfl (by show 2 * 0 + _ ≤ _; exact Nat.le_of_eq rfl) (hb hby at_87) (fun _ _ => ⟨rfl, e_15, (by decide : 0 + 0 ≤ _), (by decide : 0 + 0 ≤ _)⟩)
        dsimp only [Pt.U, Pt.locs, Pt.cells, Pt.slots] at X_226 l_226 y_226 z_226 st_226 hQ_226
        subst l_226 y_226 z_226
        obtain ⟨i_227, rfl, Nq_226, e_226, q_226_0⟩ := hQ_226
        have N_226 := Fr.app N_15 Nq_226
        refine own_via st_226 ?_
        show own_Go p e below _ (T_226.setTop (mkF m 90 #[.val (.long q1), .second, .val (.long q2), .second, .val (.int p3), .val (.int p4), .val (.int c0), .val (.int c1), .val (.int c2), .val (.int c3), .val (.int c4), .val (.int d0), .val (.int d1), .unset, .unset, .unset, .unset, .unset, .unset, .unset] [(.int i_227)]))
        exact kj_16 _ _ i_227 q_226_0 X_226 e_226 N_226
      · refine own_via (fun _ => XS.ifNo X_15.here hx rfl (hb hby at_77) rfl ((if0 _ _).trans (feq (hm2 : ¬ ((p3 &&& (4 : Int32)) = (0 : Int32)))).1)) ?_
        show own_Go p e below _ (T_12.setTop (mkF m 80 #[.val (.long q1), .second, .val (.long q2), .second, .val (.int p3), .val (.int p4), .val (.int c0), .val (.int c1), .val (.int c2), .val (.int c3), .val (.int c4), .val (.int d0), .val (.int d1), .unset, .unset, .unset, .unset, .unset, .unset, .unset] []))
        refine own_via (fun _ => XS.iload X_15.here hx rfl (hb hby at_80) rfl) ?_
        show own_Go p e below _ (T_12.setTop (mkF m 82 #[.val (.long q1), .second, .val (.long q2), .second, .val (.int p3), .val (.int p4), .val (.int c0), .val (.int c1), .val (.int c2), .val (.int c3), .val (.int c4), .val (.int d0), .val (.int d1), .unset, .unset, .unset, .unset, .unset, .unset, .unset] [(.int c2)]))
        refine own_via (fun _ => XS.goto X_15.here hx rfl (pc0 := 82) (pc' := 90) rfl (hb hby at_82) (by decide) (by decide)) ?_
        show own_Go p e below _ (T_12.setTop (mkF m 90 #[.val (.long q1), .second, .val (.long q2), .second, .val (.int p3), .val (.int p4), .val (.int c0), .val (.int c1), .val (.int c2), .val (.int c3), .val (.int c4), .val (.int d0), .val (.int d1), .unset, .unset, .unset, .unset, .unset, .unset, .unset] [(.int c2)]))
        exact kj_16 _ _ c2 q_3_0 X_15 e_15 N_15
    by_cases hm1 : (p3 &&& (2 : Int32)) = (0 : Int32)
    · refine own_via (fun _ => XS.ifYes X_10.here hx rfl (pc0 := 58) (pc' := 66) rfl (hb hby at_58) rfl ((if0 _ _).trans (teq (hm1 : (p3 &&& (2 : Int32)) = (0 : Int32))).1) (by decide) (by decide)) ?_
      show own_Go p e below _ (T_7.setTop (mkF m 66 #[.val (.long q1), .second, .val (.long q2), .second, .val (.int p3), .val (.int p4), .val (.int c0), .val (.int c1), .val (.int c2), .val (.int c3), .val (.int c4), .val (.int d0), .unset, .unset, .unset, .unset, .unset, .unset, .unset, .unset] []))
      refine own_via (fun _ => XS.lloadN X_10.here hx rfl (hb hby at_66) rfl) ?_
      show own_Go p e below _ (T_7.setTop (mkF m 67 #[.val (.long q1), .second, .val (.long q2), .second, .val (.int p3), .val (.int p4), .val (.int c0), .val (.int c1), .val (.int c2), .val (.int c3), .val (.int c4), .val (.int d0), .unset, .unset, .unset, .unset, .unset, .unset, .unset, .unset] [(.long q2)]))
      refine own_via (fun _ => XS.iconst X_10.here hx rfl (hb hby at_67)) ?_
      show own_Go p e below _ (T_7.setTop (mkF m 68 #[.val (.long q1), .second, .val (.long q2), .second, .val (.int p3), .val (.int p4), .val (.int c0), .val (.int c1), .val (.int c2), .val (.int c3), .val (.int c4), .val (.int d0), .unset, .unset, .unset, .unset, .unset, .unset, .unset, .unset] [(.int (1 : Int32)), (.long q2)]))
      obtain ⟨_, _, ⟨T_228, L_228, k_228, n_228⟩, -, X_228, ⟨Lc_228, hQ_228, l_228, y_228, z_228⟩, st_228⟩ := Jvm.LawKit.callS X_10 hx (y := (⟨"com/example/kworum/kworum/model/EntryEqualsPinLaw", "ch", "(JI)C"⟩ : MethodName)) hown (mvT hZ (own_w hw 0 rfl)) (mvT hZ (own_w hw 1 rfl)) (mvT hZ (own_w hw 2 rfl)) (mvT hZ (own_w hw 3 rfl)) (by decide) (backOf (W := 0) (rmch l Z a0 hw [] q2 (1 : Int32) h0 n0 Z0 ) hZ (own_w hw 3 rfl) (own_w hw 2 rfl) (by decide) (by decide)) (g := (mkF m 68 #[.val (.long q1), .second, .val (.long q2), .second, .val (.int p3), .val (.int p4), .val (.int c0), .val (.int c1), .val (.int c2), .val (.int c3), .val (.int c4), .val (.int d0), .unset, .unset, .unset, .unset, .unset, .unset, .unset, .unset] [(.int (1 : Int32)), (.long q2)])) rfl (by rw [hml]; rfl) (argsL := [(.long q2), (.int (1 : Int32))]) (rest := []) (lenOf pd_4 rfl) rfl (by show 2 * 0 + _ ≤ _; exact Nat.le_of_eq rfl) (hb hby at_68) (fun _ _ => ⟨rfl, e_10, (by decide : 0 + 0 ≤ _), (by decide : 0 + 0 ≤ _)⟩)
      dsimp only [Pt.U, Pt.locs, Pt.cells, Pt.slots] at X_228 l_228 y_228 z_228 st_228 hQ_228
      subst l_228 y_228 z_228
      obtain ⟨i_229, rfl, Nq_228, e_228, q_228_0⟩ := hQ_228
      have N_228 := Fr.app N_10 Nq_228
      refine own_via st_228 ?_
      show own_Go p e below _ (T_228.setTop (mkF m 71 #[.val (.long q1), .second, .val (.long q2), .second, .val (.int p3), .val (.int p4), .val (.int c0), .val (.int c1), .val (.int c2), .val (.int c3), .val (.int c4), .val (.int d0), .unset, .unset, .unset, .unset, .unset, .unset, .unset, .unset] [(.int i_229)]))
      exact kj_11 _ _ i_229 q_228_0 X_228 e_228 N_228
    · refine own_via (fun _ => XS.ifNo X_10.here hx rfl (hb hby at_58) rfl ((if0 _ _).trans (feq (hm1 : ¬ ((p3 &&& (2 : Int32)) = (0 : Int32)))).1)) ?_
      show own_Go p e below _ (T_7.setTop (mkF m 61 #[.val (.long q1), .second, .val (.long q2), .second, .val (.int p3), .val (.int p4), .val (.int c0), .val (.int c1), .val (.int c2), .val (.int c3), .val (.int c4), .val (.int d0), .unset, .unset, .unset, .unset, .unset, .unset, .unset, .unset] []))
      refine own_via (fun _ => XS.iload X_10.here hx rfl (hb hby at_61) rfl) ?_
      show own_Go p e below _ (T_7.setTop (mkF m 63 #[.val (.long q1), .second, .val (.long q2), .second, .val (.int p3), .val (.int p4), .val (.int c0), .val (.int c1), .val (.int c2), .val (.int c3), .val (.int c4), .val (.int d0), .unset, .unset, .unset, .unset, .unset, .unset, .unset, .unset] [(.int c1)]))
      refine own_via (fun _ => XS.goto X_10.here hx rfl (pc0 := 63) (pc' := 71) rfl (hb hby at_63) (by decide) (by decide)) ?_
      show own_Go p e below _ (T_7.setTop (mkF m 71 #[.val (.long q1), .second, .val (.long q2), .second, .val (.int p3), .val (.int p4), .val (.int c0), .val (.int c1), .val (.int c2), .val (.int c3), .val (.int c4), .val (.int d0), .unset, .unset, .unset, .unset, .unset, .unset, .unset, .unset] [(.int c1)]))
      exact kj_11 _ _ c1 q_2_0 X_10 e_10 N_10
  by_cases hm0 : (p3 &&& (1 : Int32)) = (0 : Int32)
  · refine own_via (fun _ => XS.ifYes X_5.here hx rfl (pc0 := 39) (pc' := 47) rfl (hb hby at_39) rfl ((if0 _ _).trans (teq (hm0 : (p3 &&& (1 : Int32)) = (0 : Int32))).1) (by decide) (by decide)) ?_
    show own_Go p e below _ (T_5.setTop (mkF m 47 #[.val (.long q1), .second, .val (.long q2), .second, .val (.int p3), .val (.int p4), .val (.int c0), .val (.int c1), .val (.int c2), .val (.int c3), .val (.int c4), .unset, .unset, .unset, .unset, .unset, .unset, .unset, .unset, .unset] []))
    refine own_via (fun _ => XS.lloadN X_5.here hx rfl (hb hby at_47) rfl) ?_
    show own_Go p e below _ (T_5.setTop (mkF m 48 #[.val (.long q1), .second, .val (.long q2), .second, .val (.int p3), .val (.int p4), .val (.int c0), .val (.int c1), .val (.int c2), .val (.int c3), .val (.int c4), .unset, .unset, .unset, .unset, .unset, .unset, .unset, .unset, .unset] [(.long q2)]))
    refine own_via (fun _ => XS.iconst X_5.here hx rfl (hb hby at_48)) ?_
    show own_Go p e below _ (T_5.setTop (mkF m 49 #[.val (.long q1), .second, .val (.long q2), .second, .val (.int p3), .val (.int p4), .val (.int c0), .val (.int c1), .val (.int c2), .val (.int c3), .val (.int c4), .unset, .unset, .unset, .unset, .unset, .unset, .unset, .unset, .unset] [(.int (0 : Int32)), (.long q2)]))
    obtain ⟨_, _, ⟨T_230, L_230, k_230, n_230⟩, -, X_230, ⟨Lc_230, hQ_230, l_230, y_230, z_230⟩, st_230⟩ := Jvm.LawKit.callS X_5 hx (y := (⟨"com/example/kworum/kworum/model/EntryEqualsPinLaw", "ch", "(JI)C"⟩ : MethodName)) hown (mvT hZ (own_w hw 0 rfl)) (mvT hZ (own_w hw 1 rfl)) (mvT hZ (own_w hw 2 rfl)) (mvT hZ (own_w hw 3 rfl)) (by decide) (backOf (W := 0) (rmch l Z a0 hw [] q2 (0 : Int32) h0 n0 Z0 ) hZ (own_w hw 3 rfl) (own_w hw 2 rfl) (by decide) (by decide)) (g := (mkF m 49 #[.val (.long q1), .second, .val (.long q2), .second, .val (.int p3), .val (.int p4), .val (.int c0), .val (.int c1), .val (.int c2), .val (.int c3), .val (.int c4), .unset, .unset, .unset, .unset, .unset, .unset, .unset, .unset, .unset] [(.int (0 : Int32)), (.long q2)])) rfl (by rw [hml]; rfl) (argsL := [(.long q2), (.int (0 : Int32))]) (rest := []) (lenOf pd_4 rfl) rfl (by show 2 * 0 + _ ≤ _; exact Nat.le_of_eq rfl) (hb hby at_49) (fun _ _ => ⟨rfl, e_5, (by decide : 0 + 0 ≤ _), (by decide : 0 + 0 ≤ _)⟩)
    dsimp only [Pt.U, Pt.locs, Pt.cells, Pt.slots] at X_230 l_230 y_230 z_230 st_230 hQ_230
    subst l_230 y_230 z_230
    obtain ⟨i_231, rfl, Nq_230, e_230, q_230_0⟩ := hQ_230
    have N_230 := Fr.app N_5 Nq_230
    refine own_via st_230 ?_
    show own_Go p e below _ (T_230.setTop (mkF m 52 #[.val (.long q1), .second, .val (.long q2), .second, .val (.int p3), .val (.int p4), .val (.int c0), .val (.int c1), .val (.int c2), .val (.int c3), .val (.int c4), .unset, .unset, .unset, .unset, .unset, .unset, .unset, .unset, .unset] [(.int i_231)]))
    exact kj_6 _ _ i_231 q_230_0 X_230 e_230 N_230
  · refine own_via (fun _ => XS.ifNo X_5.here hx rfl (hb hby at_39) rfl ((if0 _ _).trans (feq (hm0 : ¬ ((p3 &&& (1 : Int32)) = (0 : Int32)))).1)) ?_
    show own_Go p e below _ (T_5.setTop (mkF m 42 #[.val (.long q1), .second, .val (.long q2), .second, .val (.int p3), .val (.int p4), .val (.int c0), .val (.int c1), .val (.int c2), .val (.int c3), .val (.int c4), .unset, .unset, .unset, .unset, .unset, .unset, .unset, .unset, .unset] []))
    refine own_via (fun _ => XS.iload X_5.here hx rfl (hb hby at_42) rfl) ?_
    show own_Go p e below _ (T_5.setTop (mkF m 44 #[.val (.long q1), .second, .val (.long q2), .second, .val (.int p3), .val (.int p4), .val (.int c0), .val (.int c1), .val (.int c2), .val (.int c3), .val (.int c4), .unset, .unset, .unset, .unset, .unset, .unset, .unset, .unset, .unset] [(.int c0)]))
    refine own_via (fun _ => XS.goto X_5.here hx rfl (pc0 := 44) (pc' := 52) rfl (hb hby at_44) (by decide) (by decide)) ?_
    show own_Go p e below _ (T_5.setTop (mkF m 52 #[.val (.long q1), .second, .val (.long q2), .second, .val (.int p3), .val (.int p4), .val (.int c0), .val (.int c1), .val (.int c2), .val (.int c3), .val (.int c4), .unset, .unset, .unset, .unset, .unset, .unset, .unset, .unset, .unset] [(.int c0)]))
    exact kj_6 _ _ c0 q_1_0 X_5 e_5 N_5
set_option maxRecDepth 65536 in
set_option maxHeartbeats 40000000 in
theorem comes_1 {Post : Tables → Env → Array Value → State → Outcome → State → Prop} (hpost : ∀ tb e args s v u, (limb_1_1.after args s (.returned v) u = true ∧ limb_1_2.after args s (.returned v) u = true ∧ True) → FrameEnd s (.returned v) u (Jvm.fieldLocs frame_1_writes args s ++ Jvm.arrayLocs frame_1_arrays args s ++ Jvm.staticLocs frame_1_statics s) 72 256 → Post tb e args s (.returned v) u) :
    ArmFor flags0 classFile x code maxLocals ret World_1 tables_1 room_1 Calls_1 rest_1 Pre_1 Post := by
  intro l hfl _ _ p e ha hc hk s m args below hf hA hF happ hP
  obtain ⟨hcalls, hrest, hpre⟩ := hP
  obtain ⟨-, -, -, hnamed, -, -, -, hat⟩ := (Spec.applies_iff hf).mp happ
  obtain ⟨hg, hn⟩ := and_e (Cond.before_iff.mp (show (Jvm.Cond.and given_1 narrow_1).before args s = true from hpre))
  obtain ⟨ga0, gb0⟩ := and_e hg
  obtain ⟨ga1, gb1⟩ := and_e gb0
  obtain ⟨ga2, gb2⟩ := and_e gb1
  obtain ⟨ga3, gb3⟩ := and_e gb2
  obtain ⟨w0, w1, w2, w3, rfl⟩ : ∃ w0 w1 w2 w3 : Value, args = #[w0, w1, w2, w3] := by
    have hs : args.size = 4 := by simpa [Cond.value, given_1] using ga0
    obtain ⟨L⟩ := args
    match L, hs with
    | [w0, w1, w2, w3], _ => exact ⟨w0, w1, w2, w3, rfl⟩
  have hw := fun d (hd : d ∈ tables_1) => atoms_spec (ws := Jvm.Cond.code x code maxLocals ret :: tables_1) hat d (List.mem_cons_of_mem _ hd)
  have hfit : Fit s := fun {y c} hc i hi => by
    obtain ⟨ha, rfl⟩ := Array.getElem?_eq_some_iff.mp hc
    have q := List.all_eq_true.mp ((Array.all_eq_true_iff_forall_mem.mp hF) _ (Array.getElem_mem ha)) i (List.mem_range.mpr hi)
    simpa [Array.getElem?_eq_getElem hi] using q
  obtain ⟨i0, ei0⟩ := isL_v ga1
  obtain rfl : w0 = (.long i0) := Option.some.inj ei0
  obtain ⟨i1, ei1⟩ := isL_v ga2
  obtain rfl : w1 = (.long i1) := Option.some.inj ei1
  obtain ⟨i2, ei2⟩ := is_v ga3
  obtain rfl : w2 = (.int i2) := Option.some.inj ei2
  obtain ⟨i3, ei3⟩ := is_v gb3
  obtain rfl : w3 = (.int i3) := Option.some.inj ei3
  obtain ⟨hsets, hown0⟩ := atoms_of _ (rest_1_c_eq ▸ (show rest_1_c.before _ s = true from hrest))
  obtain ⟨cs, tcs⟩ := is_v (Cond.before_iff.mp (hsets _ (List.mem_of_getElem? (i := 1) rfl)))
  have Scs := Sta.start tcs (Or.inl (hsets _ (List.mem_of_getElem? (i := 0) rfl)))
  have hcs : ¬ (cs = (0 : Int32)) := fun q => by
    subst q
    have h1 := not_v (Cond.before_iff.mp (hsets _ (List.mem_of_getElem? (i := 2) rfl)))
    rw [eq_i tcs (Term.int_eval (0)) rfl] at h1
    cases h1
  obtain ⟨n, o, h1, h2, h3, _, L, rfl, ⟨rfl, N, -⟩, hq⟩ := rm0 l s _ hw tables_1 i0 i1 i2 i3 cs s.heap s.heap.size (Nat.le_refl _) (Old.start s) Scs hcs p e ha hc hk s m _ below hf ((Spec.applies_iff_loose hf).mp happ).1 ⟨rfl, State.Warmed39.refl s, rfl⟩ trivial
  refine ⟨n, _, h1, h2, h3, hpost _ _ _ _ _ _ ⟨Cond.after_iff.mpr rfl, Cond.after_iff.mpr (eq_i res_at (Term.int_eval (1)) rfl), trivial⟩ ⟨hq.1, hq.2.1, (hq.2.2.sift fun y hy => Or.inr (N y hy)).mono (by decide) (by decide)⟩⟩
theorem main_1_1 : Claimed_1_1 := comes_1 fun _ _ _ _ _ _ h hF => ⟨h.1, hF⟩
theorem main_1_2 : Claimed_1_2 := comes_1 fun _ _ _ _ _ _ h hF => ⟨h.2.1, hF⟩
end Jvm.Pilot.@@N@@
namespace Jvm.Pilot.@@N@@
open Jvm Jvm.ClassFile Sem Op Lib Jvm.Free Jvm.Stand Jvm.Pilot.@@N@@.Jvm.D
/-! MADE BY PROGRAM (witnessworld.py) out of the Statement's table words and the real class files: 20 classes; the members and pool entries that the words name. The judged class is class 1, her method 3. -/
namespace start1
open Jvm.ClassFile
def u (s : String) : CpInfo := .utf8 (stringToUtf16 s)
/-- a pool by its gaps: so many unusable entries, then the entry; so many at the end -/
def gap : Nat → List CpInfo → List CpInfo
  | 0, r => r
  | n + 1, r => .unusable :: gap n r
def poolList (es : List (Nat × CpInfo)) (last : Nat) : List CpInfo := es.foldr (fun e r => gap e.1 (e.2 :: r)) (gap last [])
def pool (es : List (Nat × CpInfo)) (last : Nat) : Array CpInfo := ⟨poolList es last⟩
def fileOf (pool : Array CpInfo) (this : Nat) (attrs : Array Attribute := #[]) (ms : Array MethodInfo := #[]) (fl : Nat := 33) (sup : Nat := 0) (ifs : Array Nat := #[]) (fds : Array FieldInfo := #[]) : ClassFile where
  minorVersion := 0
  majorVersion := 65
  constantPool := pool
  accessFlags := fl
  thisClass := this
  superClass := sup
  interfaces := ifs
  fields := fds
  methods := ms
  attributes := attrs
def plain (name : String) (sup : Option ClassId) : Class where
  name := name
  kind := .ordinary
  loader := none
  accessFlags := 33
  super := sup
  interfaces := #[]
  cf := none
  fields := #[]
  methods := #[]
  instanceTypes := #[]
  staticTypes := #[]
  resolved := #[]
  callSites := []
  init := .initialized
  statics := none
  mirror := none

def pool0 : Array CpInfo := pool [(5, u "<init>"), (0, u "()V"), (1, .class_ 10), (1, u "java/lang/Object")] 113

def k0c0 : Code := { maxStack := 0, maxLocals := 1, code := object_method_1_code, exceptionTable := #[], attributes := #[] }
def k0m0 : Method := { name := "<init>", desc := "()V", sig := { parameters := [], returnType := none }, accessFlags := 1, code := some k0c0 }
/-- java/lang/Object -/
def k0 : Class := { plain "java/lang/Object" none with
  accessFlags := 33
  interfaces := #[]
  cf := some (fileOf pool0 8 #[] #[{ accessFlags := 1, nameIndex := 5, descriptorIndex := 6, attributes := #[] }] 33 0 #[] #[])
  fields := #[]
  methods := #[k0m0]
  instanceTypes := #[]
  staticTypes := #[]
  resolved := Array.replicate 124 none
  statics := none }

def pool1 : Array CpInfo := pool [(2, .class_ 4), (1, u "java/lang/Object"), (0, u "<init>"), (0, u "()V"), (0, .long 255), (1, .class_ 10), (0, u "java/lang/String"), (0, .methodref 9 12), (0, .nameAndType 5 13), (0, u "([C)V"), (0, .methodref 15 16), (0, .class_ 17), (0, .nameAndType 18 19), (0, u "com/example/kworum/kworum/model/EntryEqualsPinLaw"), (0, u "ch"), (0, u "(JI)C"), (0, .class_ 21), (0, u "com/example/kworum/kworum/model/Entry"), (0, .methodref 15 23), (0, .nameAndType 24 25), (0, u "s"), (0, u "(C)Ljava/lang/String;"), (0, .methodref 20 27), (0, .nameAndType 5 28), (0, u "(Ljava/lang/String;Ljava/lang/String;Ljava/lang/String;Ljava/lang/String;Ljava/lang/String;)V"), (0, .methodref 20 30), (0, .nameAndType 31 32), (0, u "equals"), (0, u "(Ljava/lang/Object;)Z"), (0, .class_ 34), (0, u "com/example/kworum/kworum/model/EntryKey"), (0, .methodref 33 36), (0, .nameAndType 5 37), (0, u "(Ljava/lang/String;Ljava/lang/String;Ljava/lang/String;Ljava/lang/String;)V"), (2, u "law"), (0, u "(JJII)Z")] 3

def k1m0 : Method := { name := "<init>", desc := "()V", sig := { parameters := [], returnType := none }, accessFlags := 1, code := none }
def k1c1 : Code := { maxStack := 4, maxLocals := 3, code := method_2_code, exceptionTable := #[], attributes := #[] }
def k1m1 : Method := { name := "ch", desc := "(JI)C", sig := { parameters := [.long, .int], returnType := some .char }, accessFlags := 10, code := some k1c1 }
def k1c2 : Code := { maxStack := 3, maxLocals := 2, code := method_3_code, exceptionTable := #[], attributes := #[] }
def k1m2 : Method := { name := "s", desc := "(C)Ljava/lang/String;", sig := { parameters := [.char], returnType := some (.object "java/lang/String") }, accessFlags := 10, code := some k1c2 }
def k1c3 : Code := { maxStack := 7, maxLocals := 20, code := code, exceptionTable := #[], attributes := #[] }
def k1m3 : Method := { name := "law", desc := "(JJII)Z", sig := { parameters := [.long, .long, .int, .int], returnType := some .boolean }, accessFlags := 9, code := some k1c3 }
/-- com/example/kworum/kworum/model/EntryEqualsPinLaw -/
def k1 : Class := { plain "com/example/kworum/kworum/model/EntryEqualsPinLaw" (some 0) with
  accessFlags := 49
  interfaces := #[]
  cf := some (fileOf pool1 15 #[] #[{ accessFlags := 1, nameIndex := 5, descriptorIndex := 6, attributes := #[] }, { accessFlags := 10, nameIndex := 18, descriptorIndex := 19, attributes := #[] }, { accessFlags := 10, nameIndex := 24, descriptorIndex := 25, attributes := #[] }, { accessFlags := 9, nameIndex := 40, descriptorIndex := 41, attributes := #[] }] 49 2 #[] #[])
  fields := #[]
  methods := #[k1m0, k1m1, k1m2, k1m3]
  instanceTypes := #[]
  staticTypes := #[]
  resolved := Array.replicate 45 none
  statics := none }

def pool2 : Array CpInfo := pool [(1, .methodref 2 3), (0, .class_ 4), (0, .nameAndType 5 6), (0, u "java/lang/Object"), (0, u "<init>"), (0, u "()V"), (0, .fieldref 8 9), (0, .class_ 10), (0, .nameAndType 11 12), (0, u "com/example/kworum/kworum/model/Entry"), (0, u "role"), (0, u "Ljava/lang/String;"), (0, .fieldref 8 14), (0, .nameAndType 15 12), (0, u "type"), (0, .fieldref 8 17), (0, .nameAndType 18 12), (0, u "right"), (0, .fieldref 8 20), (0, .nameAndType 21 12), (0, u "target"), (0, .fieldref 8 23), (0, .nameAndType 24 12), (0, u "template"), (9, .methodref 35 36), (0, .class_ 37), (0, .nameAndType 38 39), (0, u "java/lang/String"), (0, u "equals"), (0, u "(Ljava/lang/Object;)Z"), (6, u "(Ljava/lang/String;Ljava/lang/String;Ljava/lang/String;Ljava/lang/String;Ljava/lang/String;)V")] 12

def k2c0 : Code := { maxStack := 2, maxLocals := 6, code := prog_46_method_1_code, exceptionTable := #[], attributes := #[] }
def k2m0 : Method := { name := "<init>", desc := "(Ljava/lang/String;Ljava/lang/String;Ljava/lang/String;Ljava/lang/String;Ljava/lang/String;)V", sig := { parameters := [(.object "java/lang/String"), (.object "java/lang/String"), (.object "java/lang/String"), (.object "java/lang/String"), (.object "java/lang/String")], returnType := none }, accessFlags := 0, code := some k2c0 }
def k2c1 : Code := { maxStack := 2, maxLocals := 3, code := prog_46_method_9_code, exceptionTable := #[], attributes := #[] }
def k2m1 : Method := { name := "equals", desc := "(Ljava/lang/Object;)Z", sig := { parameters := [(.object "java/lang/Object")], returnType := some .boolean }, accessFlags := 1, code := some k2c1 }
/-- com/example/kworum/kworum/model/Entry -/
def k2 : Class := { plain "com/example/kworum/kworum/model/Entry" (some 0) with
  accessFlags := 49
  interfaces := #[]
  cf := some (fileOf pool2 8 #[] #[{ accessFlags := 0, nameIndex := 5, descriptorIndex := 46, attributes := #[] }, { accessFlags := 1, nameIndex := 38, descriptorIndex := 39, attributes := #[] }] 49 2 #[] #[{ accessFlags := 18, nameIndex := 11, descriptorIndex := 12, attributes := #[] }, { accessFlags := 18, nameIndex := 15, descriptorIndex := 12, attributes := #[] }, { accessFlags := 18, nameIndex := 18, descriptorIndex := 12, attributes := #[] }, { accessFlags := 18, nameIndex := 21, descriptorIndex := 12, attributes := #[] }, { accessFlags := 18, nameIndex := 24, descriptorIndex := 12, attributes := #[] }])
  fields := #[{ name := "role", type := (.object "java/lang/String"), accessFlags := 18, slot := 0, constantValue := 0 }, { name := "type", type := (.object "java/lang/String"), accessFlags := 18, slot := 1, constantValue := 0 }, { name := "right", type := (.object "java/lang/String"), accessFlags := 18, slot := 2, constantValue := 0 }, { name := "target", type := (.object "java/lang/String"), accessFlags := 18, slot := 3, constantValue := 0 }, { name := "template", type := (.object "java/lang/String"), accessFlags := 18, slot := 4, constantValue := 0 }]
  methods := #[k2m0, k2m1]
  instanceTypes := #[(.object "java/lang/String"), (.object "java/lang/String"), (.object "java/lang/String"), (.object "java/lang/String"), (.object "java/lang/String")]
  staticTypes := #[]
  resolved := Array.replicate 59 none
  statics := none }

def pool3 : Array CpInfo := pool [(1, .class_ 2), (0, u "java/io/Serializable"), (0, .class_ 4), (0, u "java/lang/Object")] 2

/-- java/io/Serializable -/
def k3 : Class := { plain "java/io/Serializable" (some 0) with
  accessFlags := 1537
  interfaces := #[]
  cf := some (fileOf pool3 1 #[] #[] 1537 3 #[] #[])
  fields := #[]
  methods := #[]
  instanceTypes := #[]
  staticTypes := #[]
  resolved := Array.replicate 7 none
  statics := none }

def pool4 : Array CpInfo := pool [(1, .class_ 2), (0, u "java/lang/Comparable"), (0, .class_ 4), (0, u "java/lang/Object")] 7

/-- java/lang/Comparable -/
def k4 : Class := { plain "java/lang/Comparable" (some 0) with
  accessFlags := 1537
  interfaces := #[]
  cf := some (fileOf pool4 1 #[] #[] 1537 3 #[] #[])
  fields := #[]
  methods := #[]
  instanceTypes := #[]
  staticTypes := #[]
  resolved := Array.replicate 12 none
  statics := none }

def pool5 : Array CpInfo := pool [(2, .class_ 4), (1, u "java/lang/CharSequence"), (42, .class_ 48), (0, u "java/lang/CharSequence$1CodePointIterator"), (10, .class_ 60), (0, u "java/lang/CharSequence$1CharIterator"), (5, .class_ 67), (0, u "java/lang/Object")] 63

/-- java/lang/CharSequence -/
def k5 : Class := { plain "java/lang/CharSequence" (some 0) with
  accessFlags := 1537
  interfaces := #[]
  cf := some (fileOf pool5 2 #[.nestMembers #[47, 59]] #[] 1537 66 #[] #[])
  fields := #[]
  methods := #[]
  instanceTypes := #[]
  staticTypes := #[]
  resolved := Array.replicate 131 none
  statics := none }

def pool6 : Array CpInfo := pool [(1, .class_ 2), (0, u "java/lang/constant/Constable"), (0, .class_ 4), (0, u "java/lang/Object")] 6

/-- java/lang/constant/Constable -/
def k6 : Class := { plain "java/lang/constant/Constable" (some 0) with
  accessFlags := 1537
  interfaces := #[]
  cf := some (fileOf pool6 1 #[] #[] 1537 3 #[] #[])
  fields := #[]
  methods := #[]
  instanceTypes := #[]
  staticTypes := #[]
  resolved := Array.replicate 11 none
  statics := none }

def pool7 : Array CpInfo := pool [(1, .class_ 2), (0, u "java/lang/constant/ConstantDesc"), (0, .class_ 4), (0, u "java/lang/Object")] 32

/-- java/lang/constant/ConstantDesc -/
def k7 : Class := { plain "java/lang/constant/ConstantDesc" (some 0) with
  accessFlags := 1537
  interfaces := #[]
  cf := some (fileOf pool7 1 #[] #[] 1537 3 #[] #[])
  fields := #[]
  methods := #[]
  instanceTypes := #[]
  staticTypes := #[]
  resolved := Array.replicate 37 none
  statics := none }

def pool8 : Array CpInfo := pool [(1, .methodref 2 3), (0, .class_ 4), (0, .nameAndType 5 6), (0, u "java/lang/Object"), (0, u "<init>"), (0, u "()V"), (2, .fieldref 10 11), (0, .class_ 12), (0, .nameAndType 13 14), (0, u "java/lang/String"), (0, u "value"), (0, u "[B"), (0, .fieldref 10 16), (0, .nameAndType 17 18), (0, u "coder"), (0, u "B"), (2, u "hash"), (0, u "I"), (2, u "hashIsZero"), (0, u "Z"), (0, .methodref 10 28), (0, .nameAndType 5 29), (0, u "([CIILjava/lang/Void;)V"), (8, .fieldref 10 39), (0, .nameAndType 40 26), (0, u "COMPACT_STRINGS"), (1, .class_ 44), (1, u "java/lang/StringUTF16"), (0, u "compress"), (1, .methodref 42 48), (0, .nameAndType 49 50), (0, u "coderFromArrayLen"), (0, u "([BI)B"), (56, .class_ 109), (1, u "java/lang/StringLatin1"), (67, .methodref 42 178), (0, .nameAndType 45 179), (0, u "([CII)[B"), (361, .methodref 107 542), (0, .nameAndType 543 544), (0, u "equals"), (0, u "([B[B)Z"), (28, u "(Ljava/lang/Object;)Z"), (1, .class_ 576), (0, u "java/lang/CharSequence"), (22, u "CASE_INSENSITIVE_ORDER"), (0, u "Ljava/util/Comparator;"), (409, u "([C)V"), (90, u "serialPersistentFields"), (0, u "[Ljava/io/ObjectStreamField;"), (0, .class_ 1104), (0, u "java/lang/String$CaseInsensitiveComparator"), (1, .class_ 1107), (0, u "java/io/Serializable"), (0, .class_ 1109), (0, u "java/lang/Comparable"), (0, .class_ 1111), (0, u "java/lang/constant/Constable"), (0, .class_ 1113), (0, u "java/lang/constant/ConstantDesc"), (2, u "serialVersionUID"), (0, u "J"), (3, u "REPL"), (0, u "C"), (2, u "LATIN1"), (1, u "UTF16")] 323

def k8m0 : Method := { name := "<init>", desc := "()V", sig := { parameters := [], returnType := none }, accessFlags := 1, code := none }
def k8c1 : Code := { maxStack := 5, maxLocals := 2, code := jdk_42_method_3_code, exceptionTable := #[], attributes := #[] }
def k8m1 : Method := { name := "<init>", desc := "([C)V", sig := { parameters := [(.array .char)], returnType := none }, accessFlags := 1, code := some k8c1 }
def k8c2 : Code := { maxStack := 2, maxLocals := 3, code := jdk_42_method_66_code, exceptionTable := #[], attributes := #[] }
def k8m2 : Method := { name := "equals", desc := "(Ljava/lang/Object;)Z", sig := { parameters := [(.object "java/lang/Object")], returnType := some .boolean }, accessFlags := 1, code := some k8c2 }
def k8c3 : Code := { maxStack := 4, maxLocals := 6, code := jdk_42_method_149_code, exceptionTable := #[], attributes := #[] }
def k8m3 : Method := { name := "<init>", desc := "([CIILjava/lang/Void;)V", sig := { parameters := [(.array .char), .int, .int, (.object "java/lang/Void")], returnType := none }, accessFlags := 2, code := some k8c3 }
/-- java/lang/String -/
def k8 : Class := { plain "java/lang/String" (some 0) with
  accessFlags := 49
  interfaces := #[3, 4, 5, 6, 7]
  cf := some (fileOf pool8 10 #[.nestMembers #[1103]] #[{ accessFlags := 1, nameIndex := 5, descriptorIndex := 6, attributes := #[] }, { accessFlags := 1, nameIndex := 5, descriptorIndex := 1010, attributes := #[] }, { accessFlags := 1, nameIndex := 543, descriptorIndex := 573, attributes := #[] }, { accessFlags := 2, nameIndex := 5, descriptorIndex := 29, attributes := #[] }] 49 2 #[1106, 1108, 575, 1110, 1112] #[{ accessFlags := 18, nameIndex := 13, descriptorIndex := 14, attributes := #[] }, { accessFlags := 18, nameIndex := 17, descriptorIndex := 18, attributes := #[] }, { accessFlags := 2, nameIndex := 21, descriptorIndex := 22, attributes := #[] }, { accessFlags := 2, nameIndex := 25, descriptorIndex := 26, attributes := #[] }, { accessFlags := 26, nameIndex := 1116, descriptorIndex := 1117, attributes := #[] }, { accessFlags := 24, nameIndex := 40, descriptorIndex := 26, attributes := #[] }, { accessFlags := 26, nameIndex := 1101, descriptorIndex := 1102, attributes := #[] }, { accessFlags := 26, nameIndex := 1121, descriptorIndex := 1122, attributes := #[] }, { accessFlags := 25, nameIndex := 599, descriptorIndex := 600, attributes := #[] }, { accessFlags := 24, nameIndex := 1125, descriptorIndex := 18, attributes := #[] }, { accessFlags := 24, nameIndex := 1127, descriptorIndex := 18, attributes := #[] }])
  fields := #[{ name := "value", type := (.array .byte), accessFlags := 18, slot := 0, constantValue := 0 }, { name := "coder", type := .byte, accessFlags := 18, slot := 1, constantValue := 0 }, { name := "hash", type := .int, accessFlags := 2, slot := 2, constantValue := 0 }, { name := "hashIsZero", type := .boolean, accessFlags := 2, slot := 3, constantValue := 0 }, { name := "serialVersionUID", type := .long, accessFlags := 26, slot := 0, constantValue := 0 }, { name := "COMPACT_STRINGS", type := .boolean, accessFlags := 24, slot := 1, constantValue := 0 }, { name := "serialPersistentFields", type := (.array (.object "java/io/ObjectStreamField")), accessFlags := 26, slot := 2, constantValue := 0 }, { name := "REPL", type := .char, accessFlags := 26, slot := 3, constantValue := 0 }, { name := "CASE_INSENSITIVE_ORDER", type := (.object "java/util/Comparator"), accessFlags := 25, slot := 4, constantValue := 0 }, { name := "LATIN1", type := .byte, accessFlags := 24, slot := 5, constantValue := 0 }, { name := "UTF16", type := .byte, accessFlags := 24, slot := 6, constantValue := 0 }]
  methods := #[k8m0, k8m1, k8m2, k8m3]
  instanceTypes := #[(.array .byte), .byte, .int, .boolean]
  staticTypes := #[.long, .boolean, (.array (.object "java/io/ObjectStreamField")), .char, (.object "java/util/Comparator"), .byte, .byte]
  resolved := Array.replicate 1451 none
  statics := some 0 }

def pool9 : Array CpInfo := pool [(6, .class_ 8), (1, u "java/lang/Object"), (0, u "<init>"), (0, u "()V"), (1, .class_ 14), (1, u "java/lang/StringUTF16"), (31, u "$assertionsDisabled"), (0, u "Z"), (13, u "HI_BYTE_SHIFT"), (0, u "I"), (2, u "LO_BYTE_SHIFT"), (49, .methodref 12 116), (0, .nameAndType 117 118), (0, u "compress"), (0, u "([CI[BII)I"), (3, u "([CII)[B"), (138, u "coderFromArrayLen"), (0, u "([BI)B"), (106, .class_ 371), (1, u "java/lang/StringUTF16$LinesSpliterator"), (58, u "MAX_LENGTH"), (196, .class_ 628), (0, u "java/lang/StringUTF16$CodePointsSpliterator"), (0, .class_ 630), (0, u "java/lang/StringUTF16$CharsSpliterator")] 4

def k9m0 : Method := { name := "<init>", desc := "()V", sig := { parameters := [], returnType := none }, accessFlags := 0, code := none }
def k9c1 : Code := { maxStack := 2, maxLocals := 2, code := jdk_52_method_15_code, exceptionTable := #[], attributes := #[] }
def k9m1 : Method := { name := "coderFromArrayLen", desc := "([BI)B", sig := { parameters := [(.array .byte), .int], returnType := some .byte }, accessFlags := 8, code := some k9c1 }
def k9c2 : Code := { maxStack := 5, maxLocals := 6, code := jdk_52_method_16_code, exceptionTable := #[], attributes := #[] }
def k9m2 : Method := { name := "compress", desc := "([CII)[B", sig := { parameters := [(.array .char), .int, .int], returnType := some (.array .byte) }, accessFlags := 9, code := some k9c2 }
def k9c3 : Code := { maxStack := 3, maxLocals := 7, code := jdk_52_method_21_code, exceptionTable := #[], attributes := #[] }
def k9m3 : Method := { name := "compress", desc := "([CI[BII)I", sig := { parameters := [(.array .char), .int, (.array .byte), .int, .int], returnType := some .int }, accessFlags := 9, code := some k9c3 }
/-- java/lang/StringUTF16 -/
def k9 : Class := { plain "java/lang/StringUTF16" (some 0) with
  accessFlags := 48
  interfaces := #[]
  cf := some (fileOf pool9 12 #[.nestMembers #[627, 629, 369]] #[{ accessFlags := 0, nameIndex := 9, descriptorIndex := 10, attributes := #[] }, { accessFlags := 8, nameIndex := 261, descriptorIndex := 262, attributes := #[] }, { accessFlags := 9, nameIndex := 117, descriptorIndex := 122, attributes := #[] }, { accessFlags := 9, nameIndex := 117, descriptorIndex := 118, attributes := #[] }] 48 6 #[] #[{ accessFlags := 26, nameIndex := 61, descriptorIndex := 62, attributes := #[] }, { accessFlags := 26, nameIndex := 65, descriptorIndex := 62, attributes := #[] }, { accessFlags := 24, nameIndex := 430, descriptorIndex := 62, attributes := #[] }, { accessFlags := 4120, nameIndex := 46, descriptorIndex := 47, attributes := #[] }])
  fields := #[{ name := "HI_BYTE_SHIFT", type := .int, accessFlags := 26, slot := 0, constantValue := 0 }, { name := "LO_BYTE_SHIFT", type := .int, accessFlags := 26, slot := 1, constantValue := 0 }, { name := "MAX_LENGTH", type := .int, accessFlags := 24, slot := 2, constantValue := 0 }, { name := "$assertionsDisabled", type := .boolean, accessFlags := 4120, slot := 3, constantValue := 0 }]
  methods := #[k9m0, k9m1, k9m2, k9m3]
  instanceTypes := #[]
  staticTypes := #[.int, .int, .int, .boolean]
  resolved := Array.replicate 635 none
  statics := none }

def pool10 : Array CpInfo := pool [(1, .methodref 2 3), (0, .class_ 4), (0, .nameAndType 5 6), (0, u "java/lang/Object"), (0, u "<init>"), (0, u "()V"), (0, .methodref 8 9), (0, .class_ 10), (0, .nameAndType 11 12), (0, u "java/util/Objects"), (0, u "requireNonNull"), (0, u "(Ljava/lang/Object;)Ljava/lang/Object;"), (0, .class_ 14), (0, u "java/lang/String"), (0, .fieldref 16 17), (0, .class_ 18), (0, .nameAndType 19 20), (0, u "com/example/kworum/kworum/model/EntryKey"), (0, u "role"), (0, u "Ljava/lang/String;"), (0, .fieldref 16 22), (0, .nameAndType 23 20), (0, u "type"), (0, .fieldref 16 25), (0, .nameAndType 26 20), (0, u "right"), (0, .fieldref 16 28), (0, .nameAndType 29 20), (0, u "target"), (27, u "(Ljava/lang/String;Ljava/lang/String;Ljava/lang/String;Ljava/lang/String;)V")] 63

def k10c0 : Code := { maxStack := 2, maxLocals := 5, code := prog_49_method_1_code, exceptionTable := #[], attributes := #[] }
def k10m0 : Method := { name := "<init>", desc := "(Ljava/lang/String;Ljava/lang/String;Ljava/lang/String;Ljava/lang/String;)V", sig := { parameters := [(.object "java/lang/String"), (.object "java/lang/String"), (.object "java/lang/String"), (.object "java/lang/String")], returnType := none }, accessFlags := 1, code := some k10c0 }
/-- com/example/kworum/kworum/model/EntryKey -/
def k10 : Class := { plain "com/example/kworum/kworum/model/EntryKey" (some 0) with
  accessFlags := 49
  interfaces := #[]
  cf := some (fileOf pool10 16 #[] #[{ accessFlags := 1, nameIndex := 5, descriptorIndex := 57, attributes := #[] }] 49 2 #[] #[{ accessFlags := 18, nameIndex := 19, descriptorIndex := 20, attributes := #[] }, { accessFlags := 18, nameIndex := 23, descriptorIndex := 20, attributes := #[] }, { accessFlags := 18, nameIndex := 26, descriptorIndex := 20, attributes := #[] }, { accessFlags := 18, nameIndex := 29, descriptorIndex := 20, attributes := #[] }])
  fields := #[{ name := "role", type := (.object "java/lang/String"), accessFlags := 18, slot := 0, constantValue := 0 }, { name := "type", type := (.object "java/lang/String"), accessFlags := 18, slot := 1, constantValue := 0 }, { name := "right", type := (.object "java/lang/String"), accessFlags := 18, slot := 2, constantValue := 0 }, { name := "target", type := (.object "java/lang/String"), accessFlags := 18, slot := 3, constantValue := 0 }]
  methods := #[k10m0]
  instanceTypes := #[(.object "java/lang/String"), (.object "java/lang/String"), (.object "java/lang/String"), (.object "java/lang/String")]
  staticTypes := #[]
  resolved := Array.replicate 121 none
  statics := none }

def pool11 : Array CpInfo := pool [(2, .class_ 4), (1, u "java/lang/Object"), (0, u "<init>"), (0, u "()V"), (35, .class_ 44), (1, u "java/util/Objects"), (0, u "requireNonNull"), (0, u "(Ljava/lang/Object;)Ljava/lang/Object;")] 137

def k11m0 : Method := { name := "<init>", desc := "()V", sig := { parameters := [], returnType := none }, accessFlags := 2, code := none }
def k11c1 : Code := { maxStack := 2, maxLocals := 1, code := jdk_31_method_10_code, exceptionTable := #[], attributes := #[] }
def k11m1 : Method := { name := "requireNonNull", desc := "(Ljava/lang/Object;)Ljava/lang/Object;", sig := { parameters := [(.object "java/lang/Object")], returnType := some (.object "java/lang/Object") }, accessFlags := 9, code := some k11c1 }
/-- java/util/Objects -/
def k11 : Class := { plain "java/util/Objects" (some 0) with
  accessFlags := 49
  interfaces := #[]
  cf := some (fileOf pool11 42 #[] #[{ accessFlags := 2, nameIndex := 5, descriptorIndex := 6, attributes := #[] }, { accessFlags := 9, nameIndex := 45, descriptorIndex := 46, attributes := #[] }] 49 2 #[] #[])
  fields := #[]
  methods := #[k11m0, k11m1]
  instanceTypes := #[]
  staticTypes := #[]
  resolved := Array.replicate 184 none
  statics := none }

def pool12 : Array CpInfo := pool [(4, .class_ 6), (1, u "java/lang/Object"), (0, u "<init>"), (0, u "()V"), (5, .class_ 16), (1, u "java/lang/StringLatin1"), (104, u "$assertionsDisabled"), (0, u "Z"), (98, .class_ 223), (1, u "java/lang/StringLatin1$LinesSpliterator"), (57, u "equals"), (0, u "([B[B)Z"), (107, .class_ 391), (0, u "java/lang/StringLatin1$CharsSpliterator")] 3

def k12m0 : Method := { name := "<init>", desc := "()V", sig := { parameters := [], returnType := none }, accessFlags := 0, code := none }
def k12c1 : Code := { maxStack := 3, maxLocals := 3, code := jdk_43_method_13_code, exceptionTable := #[], attributes := #[] }
def k12m1 : Method := { name := "equals", desc := "([B[B)Z", sig := { parameters := [(.array .byte), (.array .byte)], returnType := some .boolean }, accessFlags := 9, code := some k12c1 }
/-- java/lang/StringLatin1 -/
def k12 : Class := { plain "java/lang/StringLatin1" (some 0) with
  accessFlags := 48
  interfaces := #[]
  cf := some (fileOf pool12 14 #[.nestMembers #[390, 221]] #[{ accessFlags := 0, nameIndex := 7, descriptorIndex := 8, attributes := #[] }, { accessFlags := 9, nameIndex := 281, descriptorIndex := 282, attributes := #[] }] 48 4 #[] #[{ accessFlags := 4120, nameIndex := 121, descriptorIndex := 122, attributes := #[] }])
  fields := #[{ name := "$assertionsDisabled", type := .boolean, accessFlags := 4120, slot := 0, constantValue := 0 }]
  methods := #[k12m0, k12m1]
  instanceTypes := #[]
  staticTypes := #[.boolean]
  resolved := Array.replicate 395 none
  statics := none }

def pool13 : Array CpInfo := pool [(2, .class_ 4), (1, u "java/lang/Object"), (0, u "<init>"), (0, u "()V"), (17, .class_ 26), (1, u "jdk/internal/util/Preconditions"), (28, .class_ 56), (0, u "jdk/internal/util/Preconditions$4"), (57, .class_ 115), (0, u "jdk/internal/util/Preconditions$1"), (7, u "SIOOBE_FORMATTER"), (0, u "Ljava/util/function/BiFunction;"), (0, .class_ 126), (0, u "jdk/internal/util/Preconditions$2"), (3, u "AIOOBE_FORMATTER"), (0, .class_ 132), (0, u "jdk/internal/util/Preconditions$3"), (3, u "IOOBE_FORMATTER")] 57

def k13m0 : Method := { name := "<init>", desc := "()V", sig := { parameters := [], returnType := none }, accessFlags := 1, code := none }
/-- jdk/internal/util/Preconditions -/
def k13 : Class := { plain "jdk/internal/util/Preconditions" (some 0) with
  accessFlags := 33
  interfaces := #[]
  cf := some (fileOf pool13 24 #[.nestMembers #[55, 131, 125, 114]] #[{ accessFlags := 1, nameIndex := 5, descriptorIndex := 6, attributes := #[] }] 33 2 #[] #[{ accessFlags := 25, nameIndex := 123, descriptorIndex := 124, attributes := #[] }, { accessFlags := 25, nameIndex := 130, descriptorIndex := 124, attributes := #[] }, { accessFlags := 25, nameIndex := 136, descriptorIndex := 124, attributes := #[] }])
  fields := #[{ name := "SIOOBE_FORMATTER", type := (.object "java/util/function/BiFunction"), accessFlags := 25, slot := 0, constantValue := 0 }, { name := "AIOOBE_FORMATTER", type := (.object "java/util/function/BiFunction"), accessFlags := 25, slot := 1, constantValue := 0 }, { name := "IOOBE_FORMATTER", type := (.object "java/util/function/BiFunction"), accessFlags := 25, slot := 2, constantValue := 0 }]
  methods := #[k13m0]
  instanceTypes := #[]
  staticTypes := #[(.object "java/util/function/BiFunction"), (.object "java/util/function/BiFunction"), (.object "java/util/function/BiFunction")]
  resolved := Array.replicate 194 none
  statics := some 1 }

def pool14 : Array CpInfo := pool [(9, u "<init>"), (6, .class_ 18), (1, u "java/lang/Object"), (0, u "()V"), (1, .class_ 23), (1, u "jdk/internal/util/ArraysSupport"), (0, u "LOG2_ARRAY_LONG_INDEX_SCALE"), (0, u "I"), (2, u "U"), (0, u "Ljdk/internal/misc/Unsafe;"), (8, u "BIG_ENDIAN"), (0, u "Z"), (8, u "LOG2_BYTE_BIT_SIZE"), (4, u "LOG2_ARRAY_INT_INDEX_SCALE"), (54, u "JLA"), (0, u "Ljdk/internal/access/JavaLangAccess;"), (11, u "LOG2_ARRAY_BOOLEAN_INDEX_SCALE"), (9, u "LOG2_ARRAY_BYTE_INDEX_SCALE"), (5, u "LOG2_ARRAY_CHAR_INDEX_SCALE"), (5, u "LOG2_ARRAY_SHORT_INDEX_SCALE"), (18, u "LOG2_ARRAY_FLOAT_INDEX_SCALE"), (24, u "LOG2_ARRAY_DOUBLE_INDEX_SCALE"), (89, u "T_BOOLEAN"), (2, u "T_CHAR"), (1, u "T_FLOAT"), (1, u "T_DOUBLE"), (1, u "T_BYTE"), (1, u "T_SHORT"), (1, u "T_INT"), (1, u "T_LONG"), (1, u "SOFT_MAX_ARRAY_LENGTH")] 83

def k14m0 : Method := { name := "<init>", desc := "()V", sig := { parameters := [], returnType := none }, accessFlags := 2, code := none }
/-- jdk/internal/util/ArraysSupport -/
def k14 : Class := { plain "jdk/internal/util/ArraysSupport" (some 0) with
  accessFlags := 33
  interfaces := #[]
  cf := some (fileOf pool14 21 #[] #[{ accessFlags := 2, nameIndex := 9, descriptorIndex := 19, attributes := #[] }] 33 16 #[] #[{ accessFlags := 24, nameIndex := 28, descriptorIndex := 29, attributes := #[] }, { accessFlags := 26, nameIndex := 38, descriptorIndex := 39, attributes := #[] }, { accessFlags := 25, nameIndex := 121, descriptorIndex := 25, attributes := #[] }, { accessFlags := 25, nameIndex := 131, descriptorIndex := 25, attributes := #[] }, { accessFlags := 25, nameIndex := 137, descriptorIndex := 25, attributes := #[] }, { accessFlags := 25, nameIndex := 143, descriptorIndex := 25, attributes := #[] }, { accessFlags := 25, nameIndex := 53, descriptorIndex := 25, attributes := #[] }, { accessFlags := 25, nameIndex := 24, descriptorIndex := 25, attributes := #[] }, { accessFlags := 25, nameIndex := 162, descriptorIndex := 25, attributes := #[] }, { accessFlags := 25, nameIndex := 187, descriptorIndex := 25, attributes := #[] }, { accessFlags := 26, nameIndex := 48, descriptorIndex := 25, attributes := #[] }, { accessFlags := 25, nameIndex := 277, descriptorIndex := 25, attributes := #[] }, { accessFlags := 25, nameIndex := 280, descriptorIndex := 25, attributes := #[] }, { accessFlags := 25, nameIndex := 282, descriptorIndex := 25, attributes := #[] }, { accessFlags := 25, nameIndex := 284, descriptorIndex := 25, attributes := #[] }, { accessFlags := 25, nameIndex := 286, descriptorIndex := 25, attributes := #[] }, { accessFlags := 25, nameIndex := 288, descriptorIndex := 25, attributes := #[] }, { accessFlags := 25, nameIndex := 290, descriptorIndex := 25, attributes := #[] }, { accessFlags := 25, nameIndex := 292, descriptorIndex := 25, attributes := #[] }, { accessFlags := 26, nameIndex := 108, descriptorIndex := 109, attributes := #[] }, { accessFlags := 25, nameIndex := 294, descriptorIndex := 25, attributes := #[] }])
  fields := #[{ name := "U", type := (.object "jdk/internal/misc/Unsafe"), accessFlags := 24, slot := 0, constantValue := 0 }, { name := "BIG_ENDIAN", type := .boolean, accessFlags := 26, slot := 1, constantValue := 0 }, { name := "LOG2_ARRAY_BOOLEAN_INDEX_SCALE", type := .int, accessFlags := 25, slot := 2, constantValue := 0 }, { name := "LOG2_ARRAY_BYTE_INDEX_SCALE", type := .int, accessFlags := 25, slot := 3, constantValue := 0 }, { name := "LOG2_ARRAY_CHAR_INDEX_SCALE", type := .int, accessFlags := 25, slot := 4, constantValue := 0 }, { name := "LOG2_ARRAY_SHORT_INDEX_SCALE", type := .int, accessFlags := 25, slot := 5, constantValue := 0 }, { name := "LOG2_ARRAY_INT_INDEX_SCALE", type := .int, accessFlags := 25, slot := 6, constantValue := 0 }, { name := "LOG2_ARRAY_LONG_INDEX_SCALE", type := .int, accessFlags := 25, slot := 7, constantValue := 0 }, { name := "LOG2_ARRAY_FLOAT_INDEX_SCALE", type := .int, accessFlags := 25, slot := 8, constantValue := 0 }, { name := "LOG2_ARRAY_DOUBLE_INDEX_SCALE", type := .int, accessFlags := 25, slot := 9, constantValue := 0 }, { name := "LOG2_BYTE_BIT_SIZE", type := .int, accessFlags := 26, slot := 10, constantValue := 0 }, { name := "T_BOOLEAN", type := .int, accessFlags := 25, slot := 11, constantValue := 0 }, { name := "T_CHAR", type := .int, accessFlags := 25, slot := 12, constantValue := 0 }, { name := "T_FLOAT", type := .int, accessFlags := 25, slot := 13, constantValue := 0 }, { name := "T_DOUBLE", type := .int, accessFlags := 25, slot := 14, constantValue := 0 }, { name := "T_BYTE", type := .int, accessFlags := 25, slot := 15, constantValue := 0 }, { name := "T_SHORT", type := .int, accessFlags := 25, slot := 16, constantValue := 0 }, { name := "T_INT", type := .int, accessFlags := 25, slot := 17, constantValue := 0 }, { name := "T_LONG", type := .int, accessFlags := 25, slot := 18, constantValue := 0 }, { name := "JLA", type := (.object "jdk/internal/access/JavaLangAccess"), accessFlags := 26, slot := 19, constantValue := 0 }, { name := "SOFT_MAX_ARRAY_LENGTH", type := .int, accessFlags := 25, slot := 20, constantValue := 0 }]
  methods := #[k14m0]
  instanceTypes := #[]
  staticTypes := #[(.object "jdk/internal/misc/Unsafe"), .boolean, .int, .int, .int, .int, .int, .int, .int, .int, .int, .int, .int, .int, .int, .int, .int, .int, .int, (.object "jdk/internal/access/JavaLangAccess"), .int]
  resolved := Array.replicate 378 none
  statics := none }

def pool15 : Array CpInfo := pool [(1, u "java/lang/Cloneable"), (0, .class_ 1), (0, u "java/lang/Object"), (0, .class_ 3)] 3

/-- java/lang/Cloneable -/
def k15 : Class := { plain "java/lang/Cloneable" (some 0) with
  accessFlags := 1537
  interfaces := #[]
  cf := some (fileOf pool15 2 #[] #[] 1537 4 #[] #[])
  fields := #[]
  methods := #[]
  instanceTypes := #[]
  staticTypes := #[]
  resolved := Array.replicate 8 none
  statics := none }

/-- the primitive byte -/
def k16 : Class := { plain "byte" none with kind := .primitive 'B', accessFlags := 0x411 }
/-- [B -/
def k17 : Class := { plain "[B" (some 0) with kind := .array 16 .byte, interfaces := #[15, 3], accessFlags := 1041 }

/-- the primitive char -/
def k18 : Class := { plain "char" none with kind := .primitive 'C', accessFlags := 0x411 }
/-- [C -/
def k19 : Class := { plain "[C" (some 0) with kind := .array 18 .char, interfaces := #[15, 3], accessFlags := 1041 }

def heap : Heap := #[{ cls := 8, slots := #[.long 0, .int 1, .null, .int 0, .null, .int 0, .int 0], vm := .statics 8 },
  { cls := 13, slots := #[.null, .null, .null], vm := .statics 13 }]
def classes : Array Class := #[k0, k1, k2, k3, k4, k5, k6, k7, k8, k9, k10, k11, k12, k13, k14, k15, k16, k17, k18, k19]
def interned : List (Array UInt16 × Addr) := []
def slotsUsed : Nat := 10
def theMethod : MethodId := ⟨1, 3⟩
def args0 : Array Value := #[.long 5, .long 6, .int 5, .int 5]
def aboutOver (below : List Frame) : State where
  vm := { classes := classes, interned := interned.toArray }
  heap := heap
  slotsUsed := slotsUsed
  threads := #[{ frames := .invoking theMethod args0 :: below }]
def below0 : List Frame := [.native { method := ⟨0, 0⟩, args := #[] }]
def about1 : State := aboutOver below0
def p0 : Program := .bare "" "" ""
def e0 : Env := launch0.env 0 0 0
theorem w_frames : about1.frames = Frame.invoking theMethod args0 :: below0 := rfl
set_option maxRecDepth 65536 in
theorem w_args : argsFit about1.vm theMethod args0 = true := by decide +kernel
set_option maxRecDepth 65536 in
theorem w_heap : heapFits about1 = true := by decide +kernel
set_option maxRecDepth 65536 in
theorem w_runnable : about1.curStatus? = some .runnable := by decide +kernel
set_option maxRecDepth 65536 in
theorem w_alone : about1.alone = true := by decide +kernel
set_option maxRecDepth 65536 in
theorem w_named : about1.methodNamed? x = some theMethod := by decide +kernel
set_option maxRecDepth 65536 in
theorem w_hears : about1.hears theMethod below0 = true := by decide +kernel
set_option maxRecDepth 65536 in
theorem w_ripe : about1.ripe theMethod args0 below0 = true := by decide +kernel
theorem w_running : about1.status = .running := rfl
set_option maxRecDepth 65536 in
theorem w_room : about1.hasRoom e0.platform room_1 = true :=
  launch0.hasRoom_least _ room_1 (by decide +kernel) (by decide +kernel) (by decide +kernel) (by decide +kernel) (by decide +kernel) (by decide +kernel)
theorem allAtoms_all (ts : List Jvm.Cond) (a : Array Jvm.Value) (st : Jvm.State) : (allAtoms ts).before a st = ts.all (fun c => c.before a st) := by
  induction ts with
  | nil => rfl
  | cons c t ih =>
    show (Jvm.Cond.and c (allAtoms t)).before a st = _
    rw [Jvm.Cond.before_and, ih, List.all_cons]
def words1 : List Jvm.Cond := Jvm.Cond.code x code maxLocals ret :: tables_1
/-- a 'code' word, met by the world's own term for the bytes: nothing is compared byte by byte -/
theorem code_word {y : MethodName} {bytes : ByteArray} {mx : Nat} {rt : Option FieldType} {a : Array Value} {s : State} {m : MethodId} {meth : Method} {c : Code} (h1 : s.methodNamed? y = some m) (h2 : s.vm.method? m = some meth) (h3 : meth.code = some c) (h4 : c.code = bytes)
    (h5 : (c.maxLocals == mx && c.exceptionTable.isEmpty && decide (c.maxStack ≤ mostOperands) && decide (meth.sig.returnType = rt) && !meth.locks && decide (parseMethodDescriptor y.desc = some meth.sig)) = true) : (Jvm.Cond.code y bytes mx rt).before a s = true := by
  simp only [Bool.and_eq_true, beq_iff_eq, Bool.not_eq_true', decide_eq_true_eq] at h5
  obtain ⟨⟨⟨⟨⟨g1, g2⟩, g3⟩, g4⟩, g5⟩, g6⟩ := h5
  simp [Cond.before, Cond.holds, Cond.value, h1, h2, h3, h4, g1, g2, g3, g4, g5, g6]
def isCode : Jvm.Cond → Bool
  | .code _ _ _ _ => true
  | _ => false
theorem all_split {L : List Jvm.Cond} {P : Jvm.Cond → Bool} (h1 : L.all (fun c => isCode c || P c) = true) (h2 : ∀ c ∈ L.filter isCode, P c = true) : L.all P = true := by
  refine List.all_eq_true.mpr fun c hc => ?_
  have h := List.all_eq_true.mp h1 c hc
  rcases Bool.eq_false_or_eq_true (isCode c) with hi | hi
  · exact h2 c (List.mem_filter.mpr ⟨hc, hi⟩)
  · simpa [hi] using h
set_option maxRecDepth 65536 in
theorem w_c0 : (Jvm.Cond.code x code maxLocals ret).before args0 about1 = true := code_word (m := ⟨1, 3⟩) (meth := k1m3) (c := k1c3) (by decide +kernel) rfl rfl rfl (by decide +kernel)
set_option maxRecDepth 65536 in
theorem w_c1 : (Jvm.Cond.code ({ cls := "com/example/kworum/kworum/model/EntryEqualsPinLaw", name := "ch", desc := "(JI)C" } : Jvm.MethodName) method_2_code (3 : Nat) (Option.some Jvm.ClassFile.FieldType.char)).before args0 about1 = true := code_word (m := ⟨1, 1⟩) (meth := k1m1) (c := k1c1) (by decide +kernel) rfl rfl rfl (by decide +kernel)
set_option maxRecDepth 65536 in
theorem w_c2 : (Jvm.Cond.code ({ cls := "com/example/kworum/kworum/model/EntryEqualsPinLaw", name := "s", desc := "(C)Ljava/lang/String;" } : Jvm.MethodName) method_3_code (2 : Nat) (Option.some (Jvm.ClassFile.FieldType.object "java/lang/String"))).before args0 about1 = true := code_word (m := ⟨1, 2⟩) (meth := k1m2) (c := k1c2) (by decide +kernel) rfl rfl rfl (by decide +kernel)
set_option maxRecDepth 65536 in
theorem w_c3 : (Jvm.Cond.code ({ cls := "java/lang/String", name := "<init>", desc := "([C)V" } : Jvm.MethodName) jdk_42_method_3_code (2 : Nat) (Option.none : Option Jvm.ClassFile.FieldType)).before args0 about1 = true := code_word (m := ⟨8, 1⟩) (meth := k8m1) (c := k8c1) (by decide +kernel) rfl rfl rfl (by decide +kernel)
set_option maxRecDepth 65536 in
theorem w_c4 : (Jvm.Cond.code ({ cls := "java/lang/String", name := "<init>", desc := "([CIILjava/lang/Void;)V" } : Jvm.MethodName) jdk_42_method_149_code (6 : Nat) (Option.none : Option Jvm.ClassFile.FieldType)).before args0 about1 = true := code_word (m := ⟨8, 3⟩) (meth := k8m3) (c := k8c3) (by decide +kernel) rfl rfl rfl (by decide +kernel)
set_option maxRecDepth 65536 in
theorem w_c5 : (Jvm.Cond.code ({ cls := "java/lang/Object", name := "<init>", desc := "()V" } : Jvm.MethodName) object_method_1_code (1 : Nat) (Option.none : Option Jvm.ClassFile.FieldType)).before args0 about1 = true := code_word (m := ⟨0, 0⟩) (meth := k0m0) (c := k0c0) (by decide +kernel) rfl rfl rfl (by decide +kernel)
set_option maxRecDepth 65536 in
theorem w_c6 : (Jvm.Cond.code ({ cls := "java/lang/StringUTF16", name := "compress", desc := "([CII)[B" } : Jvm.MethodName) jdk_52_method_16_code (6 : Nat) (Option.some (Jvm.ClassFile.FieldType.array Jvm.ClassFile.FieldType.byte))).before args0 about1 = true := code_word (m := ⟨9, 2⟩) (meth := k9m2) (c := k9c2) (by decide +kernel) rfl rfl rfl (by decide +kernel)
set_option maxRecDepth 65536 in
theorem w_c7 : (Jvm.Cond.code ({ cls := "java/lang/StringUTF16", name := "compress", desc := "([CI[BII)I" } : Jvm.MethodName) jdk_52_method_21_code (7 : Nat) (Option.some Jvm.ClassFile.FieldType.int)).before args0 about1 = true := code_word (m := ⟨9, 3⟩) (meth := k9m3) (c := k9c3) (by decide +kernel) rfl rfl rfl (by decide +kernel)
set_option maxRecDepth 65536 in
theorem w_c8 : (Jvm.Cond.code ({ cls := "java/lang/StringUTF16", name := "coderFromArrayLen", desc := "([BI)B" } : Jvm.MethodName) jdk_52_method_15_code (2 : Nat) (Option.some Jvm.ClassFile.FieldType.byte)).before args0 about1 = true := code_word (m := ⟨9, 1⟩) (meth := k9m1) (c := k9c1) (by decide +kernel) rfl rfl rfl (by decide +kernel)
set_option maxRecDepth 65536 in
theorem w_c9 : (Jvm.Cond.code ({ cls := "com/example/kworum/kworum/model/Entry", name := "<init>", desc := "(Ljava/lang/String;Ljava/lang/String;Ljava/lang/String;Ljava/lang/String;Ljava/lang/String;)V" } : Jvm.MethodName) prog_46_method_1_code (6 : Nat) (Option.none : Option Jvm.ClassFile.FieldType)).before args0 about1 = true := code_word (m := ⟨2, 0⟩) (meth := k2m0) (c := k2c0) (by decide +kernel) rfl rfl rfl (by decide +kernel)
set_option maxRecDepth 65536 in
theorem w_c10 : (Jvm.Cond.code ({ cls := "com/example/kworum/kworum/model/EntryKey", name := "<init>", desc := "(Ljava/lang/String;Ljava/lang/String;Ljava/lang/String;Ljava/lang/String;)V" } : Jvm.MethodName) prog_49_method_1_code (5 : Nat) (Option.none : Option Jvm.ClassFile.FieldType)).before args0 about1 = true := code_word (m := ⟨10, 0⟩) (meth := k10m0) (c := k10c0) (by decide +kernel) rfl rfl rfl (by decide +kernel)
set_option maxRecDepth 65536 in
theorem w_c11 : (Jvm.Cond.code ({ cls := "java/util/Objects", name := "requireNonNull", desc := "(Ljava/lang/Object;)Ljava/lang/Object;" } : Jvm.MethodName) jdk_31_method_10_code (1 : Nat) (Option.some (Jvm.ClassFile.FieldType.object "java/lang/Object"))).before args0 about1 = true := code_word (m := ⟨11, 1⟩) (meth := k11m1) (c := k11c1) (by decide +kernel) rfl rfl rfl (by decide +kernel)
set_option maxRecDepth 65536 in
theorem w_c12 : (Jvm.Cond.code ({ cls := "com/example/kworum/kworum/model/Entry", name := "equals", desc := "(Ljava/lang/Object;)Z" } : Jvm.MethodName) prog_46_method_9_code (3 : Nat) (Option.some Jvm.ClassFile.FieldType.boolean)).before args0 about1 = true := code_word (m := ⟨2, 1⟩) (meth := k2m1) (c := k2c1) (by decide +kernel) rfl rfl rfl (by decide +kernel)
set_option maxRecDepth 65536 in
theorem w_c13 : (Jvm.Cond.code ({ cls := "java/lang/String", name := "equals", desc := "(Ljava/lang/Object;)Z" } : Jvm.MethodName) jdk_42_method_66_code (3 : Nat) (Option.some Jvm.ClassFile.FieldType.boolean)).before args0 about1 = true := code_word (m := ⟨8, 2⟩) (meth := k8m2) (c := k8c2) (by decide +kernel) rfl rfl rfl (by decide +kernel)
set_option maxRecDepth 65536 in
theorem w_c14 : (Jvm.Cond.code ({ cls := "java/lang/StringLatin1", name := "equals", desc := "([B[B)Z" } : Jvm.MethodName) jdk_43_method_13_code (3 : Nat) (Option.some Jvm.ClassFile.FieldType.boolean)).before args0 about1 = true := code_word (m := ⟨12, 1⟩) (meth := k12m1) (c := k12c1) (by decide +kernel) rfl rfl rfl (by decide +kernel)
def codes1 : List Jvm.Cond := [Jvm.Cond.code x code maxLocals ret, Jvm.Cond.code ({ cls := "com/example/kworum/kworum/model/EntryEqualsPinLaw", name := "ch", desc := "(JI)C" } : Jvm.MethodName) method_2_code (3 : Nat) (Option.some Jvm.ClassFile.FieldType.char), Jvm.Cond.code ({ cls := "com/example/kworum/kworum/model/EntryEqualsPinLaw", name := "s", desc := "(C)Ljava/lang/String;" } : Jvm.MethodName) method_3_code (2 : Nat) (Option.some (Jvm.ClassFile.FieldType.object "java/lang/String")), Jvm.Cond.code ({ cls := "java/lang/String", name := "<init>", desc := "([C)V" } : Jvm.MethodName) jdk_42_method_3_code (2 : Nat) (Option.none : Option Jvm.ClassFile.FieldType), Jvm.Cond.code ({ cls := "java/lang/String", name := "<init>", desc := "([CIILjava/lang/Void;)V" } : Jvm.MethodName) jdk_42_method_149_code (6 : Nat) (Option.none : Option Jvm.ClassFile.FieldType), Jvm.Cond.code ({ cls := "java/lang/Object", name := "<init>", desc := "()V" } : Jvm.MethodName) object_method_1_code (1 : Nat) (Option.none : Option Jvm.ClassFile.FieldType), Jvm.Cond.code ({ cls := "java/lang/StringUTF16", name := "compress", desc := "([CII)[B" } : Jvm.MethodName) jdk_52_method_16_code (6 : Nat) (Option.some (Jvm.ClassFile.FieldType.array Jvm.ClassFile.FieldType.byte)), Jvm.Cond.code ({ cls := "java/lang/StringUTF16", name := "compress", desc := "([CI[BII)I" } : Jvm.MethodName) jdk_52_method_21_code (7 : Nat) (Option.some Jvm.ClassFile.FieldType.int), Jvm.Cond.code ({ cls := "java/lang/StringUTF16", name := "coderFromArrayLen", desc := "([BI)B" } : Jvm.MethodName) jdk_52_method_15_code (2 : Nat) (Option.some Jvm.ClassFile.FieldType.byte), Jvm.Cond.code ({ cls := "com/example/kworum/kworum/model/Entry", name := "<init>", desc := "(Ljava/lang/String;Ljava/lang/String;Ljava/lang/String;Ljava/lang/String;Ljava/lang/String;)V" } : Jvm.MethodName) prog_46_method_1_code (6 : Nat) (Option.none : Option Jvm.ClassFile.FieldType), Jvm.Cond.code ({ cls := "com/example/kworum/kworum/model/EntryKey", name := "<init>", desc := "(Ljava/lang/String;Ljava/lang/String;Ljava/lang/String;Ljava/lang/String;)V" } : Jvm.MethodName) prog_49_method_1_code (5 : Nat) (Option.none : Option Jvm.ClassFile.FieldType), Jvm.Cond.code ({ cls := "java/util/Objects", name := "requireNonNull", desc := "(Ljava/lang/Object;)Ljava/lang/Object;" } : Jvm.MethodName) jdk_31_method_10_code (1 : Nat) (Option.some (Jvm.ClassFile.FieldType.object "java/lang/Object")), Jvm.Cond.code ({ cls := "com/example/kworum/kworum/model/Entry", name := "equals", desc := "(Ljava/lang/Object;)Z" } : Jvm.MethodName) prog_46_method_9_code (3 : Nat) (Option.some Jvm.ClassFile.FieldType.boolean), Jvm.Cond.code ({ cls := "java/lang/String", name := "equals", desc := "(Ljava/lang/Object;)Z" } : Jvm.MethodName) jdk_42_method_66_code (3 : Nat) (Option.some Jvm.ClassFile.FieldType.boolean), Jvm.Cond.code ({ cls := "java/lang/StringLatin1", name := "equals", desc := "([B[B)Z" } : Jvm.MethodName) jdk_43_method_13_code (3 : Nat) (Option.some Jvm.ClassFile.FieldType.boolean)]
set_option maxRecDepth 65536 in
theorem codes_eq : words1.filter isCode = codes1 := rfl
theorem w_codes : ∀ c ∈ words1.filter isCode, c.before args0 about1 = true := by
  rw [codes_eq]
  intro c hc
  simp only [codes1, List.mem_cons, List.not_mem_nil, or_false] at hc
  rcases hc with rfl | rfl | rfl | rfl | rfl | rfl | rfl | rfl | rfl | rfl | rfl | rfl | rfl | rfl | rfl
  · exact w_c0
  · exact w_c1
  · exact w_c2
  · exact w_c3
  · exact w_c4
  · exact w_c5
  · exact w_c6
  · exact w_c7
  · exact w_c8
  · exact w_c9
  · exact w_c10
  · exact w_c11
  · exact w_c12
  · exact w_c13
  · exact w_c14
set_option maxRecDepth 65536 in
theorem w_t1 : (words1.take 24).all (fun c => isCode c || c.before args0 about1) = true := by decide +kernel
set_option maxRecDepth 65536 in
theorem w_t2 : ((words1.drop 24).take 24).all (fun c => isCode c || c.before args0 about1) = true := by decide +kernel
set_option maxRecDepth 65536 in
theorem w_t3 : (((words1.drop 24).drop 24).take 24).all (fun c => isCode c || c.before args0 about1) = true := by decide +kernel
set_option maxRecDepth 65536 in
theorem w_t4 : (((words1.drop 24).drop 24).drop 24).all (fun c => isCode c || c.before args0 about1) = true := by decide +kernel
theorem w_tables : (allAtoms (Jvm.Cond.code x code maxLocals ret :: tables_1)).before args0 about1 = true := by
  rw [allAtoms_all]
  show words1.all (fun c => c.before args0 about1) = true
  refine all_split ?_ w_codes
  rw [← List.take_append_drop 24 words1, List.all_append, w_t1, ← List.take_append_drop 24 (words1.drop 24), List.all_append, w_t2, ← List.take_append_drop 24 ((words1.drop 24).drop 24), List.all_append, w_t3, w_t4]
  rfl
set_option maxRecDepth 65536 in
theorem w_rest : rest_1_c.before args0 about1 = true := by decide +kernel
set_option maxRecDepth 65536 in
theorem w_case : (Jvm.Cond.and given_1 narrow_1).before args0 about1 = true := by decide +kernel
theorem w_applies : (headSpec (Jvm.Cond.code x code maxLocals ret :: tables_1) room_1).applies x e0.platform about1 = true :=
  (Spec.applies_iff w_frames).mpr ⟨w_running, w_runnable, w_alone, w_named, w_hears, w_ripe, w_room, w_tables⟩
theorem atStart : AtStart classFile x code maxLocals ret World_1 tables_1 room_1 Calls_1 rest_1 Pre_1 launch0 p0 e0 about1 theMethod args0 below0 :=
  ⟨lists_1, trivial, launch0.admits_env _ _ _, launch0.least_env, fairChoices_fair.cas, fairChoices_fair.clock, w_frames, w_args, w_heap, w_applies, trivial, w_rest, w_case⟩
end start1
theorem witness_1 : WitnessClaimed_1 := ⟨start1.p0, start1.e0, start1.about1, start1.theMethod, start1.args0, start1.below0, start1.atStart⟩
end Jvm.Pilot.@@N@@
