import JvmDerived
import JvmDerived.Pilot.@@N@@Statement
import JvmDerived.Pilot.@@N@@Code
set_option linter.unusedVariables false
set_option linter.unusedSimpArgs false
set_option maxRecDepth 65536
set_option maxHeartbeats 40000000
/- laws to paste: Road.eqW, Road.codOf (cut by pick.py; bodies as the Statement names them) -/
namespace Jvm.Pilot.@@N@@
namespace StrChars
open Jvm Sem ClassFile Op Lib Jvm.Stand Jvm.Free.XT Jvm.Free.ALB Jvm.Free.JM Jvm.Free
open Jvm.Lib.Cold (StaticIs)
/-- a char array whose places are chars -/
def Ch (a : Addr) (A : Cell) (U : State) : Prop := Arr .char a A U ∧ Typed .char A
theorem Ch.mv {a : Addr} {A : Cell} {U U' : State} (h : Ch a A U) (hal : U.vm.Alike U'.vm) (hh : U'.heap = U.heap) : Ch a A U' := ⟨h.1.mv hal hh, h.2⟩
theorem Ch.keep {a : Addr} {A : Cell} {U U' : State} (h : Ch a A U) (hal : U.vm.Alike U'.vm) (hk : U'.heap[a]? = some A) : Ch a A U' := ⟨h.1.keep hal hk, h.2⟩
/-- what place i of a char[]'s cell holds -/
def cv (A : Cell) (i : Nat) : Int32 := match A.slots[i]? with | some (.int x) => x | _ => 0
theorem Ch.get {a : Addr} {A : Cell} {U : State} (h : Ch a A U) {i : Nat} (hi : i < A.slots.size) : A.slots[i]? = some (.int (cv A i)) := by
  have e := Array.getElem?_eq_getElem hi
  have f := h.2 i _ e
  unfold cv; rw [e]
  generalize A.slots[i] = v at f
  cases v <;> simp [fits] at f ⊢
/-- the byte that i2b leaves of a char -/
def lo8 (x : Int32) : Int32 := x.toInt8.toInt32
theorem fits_lo8 (y : Int32) : fits .byte (.int (lo8 y)) = true := by
  have h1 := y.toInt8.le_toInt
  have h2 := y.toInt8.toInt_lt
  simp only [lo8, fits, Bool.and_eq_true, decide_eq_true_eq, Int32.le_iff_toInt_le, Int8.toInt_toInt32, show (-128 : Int32).toInt = -128 from by decide, show (127 : Int32).toInt = 127 from by decide]
  omega
/-- A' is A but that each place j of lo .. hi - 1 holds f j -/
def Laid (A A' : Cell) (lo hi : Nat) (f : Nat → Value) : Prop := A'.cls = A.cls ∧ A'.vm = A.vm ∧ A'.slots.size = A.slots.size ∧ ∀ i, A'.slots[i]? = if lo ≤ i ∧ i < hi then some (f i) else A.slots[i]?
theorem Laid.zero (A : Cell) (lo : Nat) (f : Nat → Value) : Laid A A lo (lo + 0) f := ⟨rfl, rfl, rfl, fun i => by rw [if_neg (by omega)]⟩
theorem Laid.step {A Ak : Cell} {lo k : Nat} {f : Nat → Value} {v : Value} (h : Laid A Ak lo k f) (hlo : lo ≤ k) (hk : k < Ak.slots.size) (hv : v = f k) : Laid A (Ak.setSlot k v) lo (k + 1) f := by
  refine ⟨h.1, h.2.1, by simpa [Cell.setSlot] using h.2.2.1, fun i => ?_⟩
  by_cases e : k = i
  · subst e; rw [Cell.slots_setSlot_self v hk, if_pos (by omega), hv]
  · rw [Cell.slots_setSlot_ne v e, h.2.2.2 i]
    by_cases q : lo ≤ i ∧ i < k
    · rw [if_pos q, if_pos (by omega)]
    · rw [if_neg q, if_neg (by omega)]
def U16 : String := "java/lang/StringUTF16"
namespace Cmp5
def yN : MethodName := ⟨"java/lang/StringUTF16", "compress", "([CI[BII)I"⟩
abbrev yB : ByteArray := jdk_52_method_21_code
theorem d0 : decode yB 0 = .ok (.iconst 0, 1) := by decide +kernel
theorem d1 : decode yB 1 = .ok (.istore 5, 2) := by decide +kernel
theorem d3 : decode yB 3 = .ok (.iload 5, 2) := by decide +kernel
theorem d5 : decode yB 5 = .ok (.iload 4, 2) := by decide +kernel
theorem d7 : decode yB 7 = .ok (.if_icmp (.ge) 37, 3) := by decide +kernel
theorem d10 : decode yB 10 = .ok (.aload_n 0, 1) := by decide +kernel
theorem d11 : decode yB 11 = .ok (.iload_n 1, 1) := by decide +kernel
theorem d12 : decode yB 12 = .ok (.caload, 1) := by decide +kernel
theorem d13 : decode yB 13 = .ok (.istore 6, 2) := by decide +kernel
theorem d15 : decode yB 15 = .ok (.iload 6, 2) := by decide +kernel
theorem d17 : decode yB 17 = .ok (.sipush 255, 3) := by decide +kernel
theorem d20 : decode yB 20 = .ok (.if_icmp (.le) 6, 3) := by decide +kernel
theorem d26 : decode yB 26 = .ok (.aload_n 2, 1) := by decide +kernel
theorem d27 : decode yB 27 = .ok (.iload_n 3, 1) := by decide +kernel
theorem d28 : decode yB 28 = .ok (.iload 6, 2) := by decide +kernel
theorem d30 : decode yB 30 = .ok (.i2b, 1) := by decide +kernel
theorem d31 : decode yB 31 = .ok (.bastore, 1) := by decide +kernel
theorem d32 : decode yB 32 = .ok (.iinc 1 1, 3) := by decide +kernel
theorem d35 : decode yB 35 = .ok (.iinc 3 1, 3) := by decide +kernel
theorem d38 : decode yB 38 = .ok (.iinc 5 1, 3) := by decide +kernel
theorem d41 : decode yB 41 = .ok (.goto (-38), 3) := by decide +kernel
theorem d44 : decode yB 44 = .ok (.iload 4, 2) := by decide +kernel
theorem d46 : decode yB 46 = .ok (.ireturn, 1) := by decide +kernel
def site : List Cond := []
def tab : Cond := tabOf yN yB 7 (some .int) site
def P (b : Addr) (A : Cell) (d : Addr) (B : Cell) (o q len : Nat) (args : Array Value) (s : State) : Prop := args = #[.ref b, .int (Int32.ofNat o), .ref d, .int (Int32.ofNat q), .int (Int32.ofNat len)] ∧ Ch b A s ∧ Arr .byte d B s ∧ b ≠ d ∧ o + len ≤ A.slots.size ∧ q + len ≤ B.slots.size ∧ ∀ i, i < len → ¬ 255 < cv A (o + i)
def E (b : Addr) (A : Cell) (d : Addr) (B : Cell) (o q len : Nat) (r : Option Value) (s u : State) : Prop := r = some (.int (Int32.ofNat len)) ∧ ∃ B', Put d B' s u ∧ Laid B B' q (q + len) (fun j => Value.int (lo8 (cv A (o + (j - q)))))
/-- no char of the range above 255: len; the places written hold each char's low byte -/
theorem law (l : Launch) (b : Addr) (A : Cell) (d : Addr) (B : Cell) (o q len : Nat) : Law l yN 5 5 0 0 yB 7 (some .int) site (P b A d B o q len) (E b A d B o q len) (copyLocs d q len) 0 0 := by
  refine Law.of_walk (plainFor_of_name (by decide +kernel)) (by decide +kernel) (by decide +kernel) (by decide) (fun _ _ h => by rw [h.1]; rfl) (fun _ U U' hal hh h => ⟨h.1, h.2.1.mv hal hh, h.2.2.1.mv hal hh, h.2.2.2⟩) (fun r U U' V V' h1 hal h2 h => ⟨h.1, h.2.elim fun B' q => ⟨B', q.1.mv h1 h2, q.2⟩⟩) ?_
  intro p e s m args below meth c s₁ X0 hexec hbytes hml hret hlk hnm hown hh0 W hP
  obtain ⟨rfl, hA, hB, hne, l1, l2, hp⟩ := hP
  have c1 : Steps p.tables e below (s₁.setTop (entryFrame m #[.ref b, .int (Int32.ofNat o), .ref d, .int (Int32.ofNat q), .int (Int32.ofNat len)] 7)) (s₁.setTop (mkF m 0 #[.val (.ref b), .val (.int (Int32.ofNat o)), .val (.ref d), .val (.int (Int32.ofNat q)), .val (.int (Int32.ofNat len)), .unset, .unset] [])) := entry rfl
  have hA0 := hA.1.mv X0.warmed.alike hh0
  have hB0 := hB.mv X0.warmed.alike hh0
  have a31 := hA.1.2.2.2
  have c2 : Steps p.tables e below (s₁.setTop (entryFrame m #[.ref b, .int (Int32.ofNat o), .ref d, .int (Int32.ofNat q), .int (Int32.ofNat len)] 7)) (s₁.setTop (mkF m 3 #[.val (.ref b), .val (.int (Int32.ofNat o)), .val (.ref d), .val (.int (Int32.ofNat q)), .val (.int (Int32.ofNat len)), .val (.int 0), .unset] [])) := c1.trans (by
    refine iconstV X0.here hexec rfl 0 (hb hbytes d0) (by decide) ?_
    refine XS.istore X0.here hexec rfl (hb hbytes d1) rfl rfl ?_
    exact Steps.refl _)
  have loop : ∀ (r i : Nat), i + r = len → ∀ (z : Slot), (z = .unset ∨ ∃ w, z = .val w ∧ w.category = 1) → ∀ (Tl : State) (Bk : Cell), Stand p l e { frames := 0, locals := 0, cells := 0, slots := 0 } s m #[.ref b, .int (Int32.ofNat o), .ref d, .int (Int32.ofNat q), .int (Int32.ofNat len)] below meth c Tl ([] ++ copyLocs d q i) 0 0 → Put d Bk s₁ Tl → Laid B Bk q (q + i) (fun j => Value.int (lo8 (cv A (o + (j - q))))) →
      Steps p.tables e below (s₁.setTop (entryFrame m #[.ref b, .int (Int32.ofNat o), .ref d, .int (Int32.ofNat q), .int (Int32.ofNat len)] 7)) (Tl.setTop (mkF m 3 #[.val (.ref b), .val (.int (Int32.ofNat (o + i))), .val (.ref d), .val (.int (Int32.ofNat (q + i))), .val (.int (Int32.ofNat len)), .val (.int (Int32.ofNat i)), z] [])) → ∃ (T' : State) (B' : Cell) (z' : Slot), Stand p l e { frames := 0, locals := 0, cells := 0, slots := 0 } s m #[.ref b, .int (Int32.ofNat o), .ref d, .int (Int32.ofNat q), .int (Int32.ofNat len)] below meth c T' ([] ++ copyLocs d q len) 0 0 ∧ Put d B' s₁ T' ∧ Laid B B' q (q + len) (fun j => Value.int (lo8 (cv A (o + (j - q))))) ∧
      Steps p.tables e below (s₁.setTop (entryFrame m #[.ref b, .int (Int32.ofNat o), .ref d, .int (Int32.ofNat q), .int (Int32.ofNat len)] 7)) (T'.setTop (mkF m 3 #[.val (.ref b), .val (.int (Int32.ofNat (o + len))), .val (.ref d), .val (.int (Int32.ofNat (q + len))), .val (.int (Int32.ofNat len)), .val (.int (Int32.ofNat len)), z'] [])) := by
    intro r
    induction r with
    | zero =>
      intro i hi z hz Tl Bk Xl pl fl cl
      have hil : i = len := by omega
      rw [hil] at Xl fl cl
      exact ⟨Tl, Bk, z, Xl, pl, fl, cl⟩
    | succ r ih =>
      intro i hi z hz Tl Bk Xl pl fl cl
      have all := X0.warmed.alike.symm.trans Xl.warmed.alike
      have hAl := hA0.keep all (pl.other hne hA0.1)
      have hBk := hB0.like all pl.1 fl.1 fl.2.1 fl.2.2.1
      have hlt : q + i < Bk.slots.size := by rw [fl.2.2.1]; omega
      have c3 : Steps p.tables e below (s₁.setTop (entryFrame m #[.ref b, .int (Int32.ofNat o), .ref d, .int (Int32.ofNat q), .int (Int32.ofNat len)] 7)) (Tl.setTop (mkF m 12 #[.val (.ref b), .val (.int (Int32.ofNat (o + i))), .val (.ref d), .val (.int (Int32.ofNat (q + i))), .val (.int (Int32.ofNat len)), .val (.int (Int32.ofNat i)), z] [.int (Int32.ofNat (o + i)), .ref b])) := cl.trans (by
        refine XS.iload Xl.here hexec rfl (hb hbytes d3) rfl ?_
        refine XS.iload Xl.here hexec rfl (hb hbytes d5) rfl ?_
        refine XS.icmpNo Xl.here hexec rfl (hb hbytes d7) rfl (ii_ge_f (lt32 (by omega) (by omega))) ?_
        refine XS.aloadN Xl.here hexec rfl (hb hbytes d10) rfl rfl ?_
        refine XS.iloadN Xl.here hexec rfl (hb hbytes d11) rfl ?_
        exact Steps.refl _)
      have c4 : Steps p.tables e below (s₁.setTop (entryFrame m #[.ref b, .int (Int32.ofNat o), .ref d, .int (Int32.ofNat q), .int (Int32.ofNat len)] 7)) (Tl.setTop (mkF m 13 #[.val (.ref b), .val (.int (Int32.ofNat (o + i))), .val (.ref d), .val (.int (Int32.ofNat (q + i))), .val (.int (Int32.ofNat len)), .val (.int (Int32.ofNat i)), z] [.int (cv A (o + i))])) := c3.trans (by
        refine Xl.aget hexec hAl rfl (hA.get (i := o + i) (by omega)) rfl rfl (hb hbytes d12) ?_
        exact Steps.refl _)
      have c5 : Steps p.tables e below (s₁.setTop (entryFrame m #[.ref b, .int (Int32.ofNat o), .ref d, .int (Int32.ofNat q), .int (Int32.ofNat len)] 7)) (Tl.setTop (mkF m 15 #[.val (.ref b), .val (.int (Int32.ofNat (o + i))), .val (.ref d), .val (.int (Int32.ofNat (q + i))), .val (.int (Int32.ofNat len)), .val (.int (Int32.ofNat i)), .val (.int (cv A (o + i)))] [])) := c4.trans (by
        refine XS.istoreS Xl.here hexec rfl (hb hbytes d13) rfl rfl hz ?_
        exact Steps.refl _)
      have c6 : Steps p.tables e below (s₁.setTop (entryFrame m #[.ref b, .int (Int32.ofNat o), .ref d, .int (Int32.ofNat q), .int (Int32.ofNat len)] 7)) (Tl.setTop (mkF m 31 #[.val (.ref b), .val (.int (Int32.ofNat (o + i))), .val (.ref d), .val (.int (Int32.ofNat (q + i))), .val (.int (Int32.ofNat len)), .val (.int (Int32.ofNat i)), .val (.int (cv A (o + i)))] [.int (lo8 (cv A (o + i))), .int (Int32.ofNat (q + i)), .ref d])) := c5.trans (by
        refine XS.iload Xl.here hexec rfl (hb hbytes d15) rfl ?_
        refine sipushV Xl.here hexec rfl 255 (hb hbytes d17) (by decide) ?_
        refine XS.icmpYes Xl.here hexec rfl (pc0 := 20) rfl (hb hbytes d20) rfl (ii_le_t (hp i (by omega))) (by decide) rfl ?_
        refine XS.aloadN Xl.here hexec rfl (hb hbytes d26) rfl rfl ?_
        refine XS.iloadN Xl.here hexec rfl (hb hbytes d27) rfl ?_
        refine XS.iload Xl.here hexec rfl (hb hbytes d28) rfl ?_
        refine i2b Xl.here hexec rfl (hb hbytes d30) rfl ?_
        exact Steps.refl _)
      obtain ⟨T7, X7, p7, st7⟩ := Xl.aput hexec hBk rfl hlt rfl (fits_lo8 (cv A (o + i))) (g := (mkF m 31 #[.val (.ref b), .val (.int (Int32.ofNat (o + i))), .val (.ref d), .val (.int (Int32.ofNat (q + i))), .val (.int (Int32.ofNat len)), .val (.int (Int32.ofNat i)), .val (.int (cv A (o + i)))] [.int (lo8 (cv A (o + i))), .int (Int32.ofNat (q + i)), .ref d])) rfl (rest := []) rfl (hb hbytes d31)
      have c8 : Steps p.tables e below (s₁.setTop (entryFrame m #[.ref b, .int (Int32.ofNat o), .ref d, .int (Int32.ofNat q), .int (Int32.ofNat len)] 7)) (T7.setTop (mkF m 32 #[.val (.ref b), .val (.int (Int32.ofNat (o + i))), .val (.ref d), .val (.int (Int32.ofNat (q + i))), .val (.int (Int32.ofNat len)), .val (.int (Int32.ofNat i)), .val (.int (cv A (o + i)))] [])) := c6.trans (st7 _ (Steps.refl _))
      have c9 : Steps p.tables e below (s₁.setTop (entryFrame m #[.ref b, .int (Int32.ofNat o), .ref d, .int (Int32.ofNat q), .int (Int32.ofNat len)] 7)) (T7.setTop (mkF m 3 #[.val (.ref b), .val (.int (Int32.ofNat (o + i) + 1)), .val (.ref d), .val (.int (Int32.ofNat (q + i) + 1)), .val (.int (Int32.ofNat len)), .val (.int (Int32.ofNat i + 1)), .val (.int (cv A (o + i)))] [])) := c8.trans (by
        refine iincV X7.here hexec rfl 1 (hb hbytes d32) (by decide) rfl rfl ?_
        refine iincV X7.here hexec rfl 1 (hb hbytes d35) (by decide) rfl rfl ?_
        refine iincV X7.here hexec rfl 1 (hb hbytes d38) (by decide) rfl rfl ?_
        refine XS.goto X7.here hexec rfl (pc0 := 41) rfl (hb hbytes d41) (by decide) rfl ?_
        exact Steps.refl _)
      have c10 : Steps p.tables e below (s₁.setTop (entryFrame m #[.ref b, .int (Int32.ofNat o), .ref d, .int (Int32.ofNat q), .int (Int32.ofNat len)] 7)) (T7.setTop (mkF m 3 #[.val (.ref b), .val (.int (Int32.ofNat (o + (i + 1)))), .val (.ref d), .val (.int (Int32.ofNat (q + (i + 1)))), .val (.int (Int32.ofNat len)), .val (.int (Int32.ofNat (i + 1))), .val (.int (cv A (o + i)))] [])) := by
        have := c9
        rw [succ32, succ32, succ32] at this
        exact this
      exact ih (i + 1) (by omega) _ (Or.inr ⟨_, rfl, rfl⟩) T7 _ (by rw [copyLocs_step, ← List.append_assoc]; exact X7) (pl.trans p7) (fl.step (by omega) hlt (by simp)) c10
  obtain ⟨T9, B9, z9, X9, p9, f9, g9⟩ := loop len 0 (by omega) .unset (Or.inl rfl) s₁ B (by simpa [copyLocs] using X0) ⟨hB0.1, fun _ _ => rfl, rfl⟩ (Laid.zero _ _ _) c2
  have c11 : Steps p.tables e below (s₁.setTop (entryFrame m #[.ref b, .int (Int32.ofNat o), .ref d, .int (Int32.ofNat q), .int (Int32.ofNat len)] 7)) (T9.setTop (mkF m 46 #[.val (.ref b), .val (.int (Int32.ofNat (o + len))), .val (.ref d), .val (.int (Int32.ofNat (q + len))), .val (.int (Int32.ofNat len)), .val (.int (Int32.ofNat len)), z9] [.int (Int32.ofNat len)])) := g9.trans (by
    refine XS.iload X9.here hexec rfl (hb hbytes d3) rfl ?_
    refine XS.iload X9.here hexec rfl (hb hbytes d5) rfl ?_
    refine XS.icmpYes X9.here hexec rfl (pc0 := 7) rfl (hb hbytes d7) rfl (ii_ge_t (nlt32 (by omega) (Nat.le_refl _))) (by decide) rfl ?_
    refine XS.iload X9.here hexec rfl (hb hbytes d44) rfl ?_
    exact Steps.refl _)
  exact ⟨T9, some (.int (Int32.ofNat len)), _, _, _, X9, by simp, rfl, rfl, (fun h => by cases h), ⟨rfl, B9, p9.from hh0, f9⟩, fun fs hl => c11.trans (X9.ireturnOut hexec hret rfl (Or.inl rfl) (hb hbytes d46) hl)⟩
end Cmp5
namespace Cmp3
def yN : MethodName := ⟨"java/lang/StringUTF16", "compress", "([CII)[B"⟩
abbrev yB : ByteArray := jdk_52_method_16_code
theorem d0 : decode yB 0 = .ok (.iload_n 2, 1) := by decide +kernel
theorem d1 : decode yB 1 = .ok (.newarray .byte, 2) := by decide +kernel
theorem d3 : decode yB 3 = .ok (.astore_n 3, 1) := by decide +kernel
theorem d4 : decode yB 4 = .ok (.aload_n 0, 1) := by decide +kernel
theorem d5 : decode yB 5 = .ok (.iload_n 1, 1) := by decide +kernel
theorem d6 : decode yB 6 = .ok (.aload_n 3, 1) := by decide +kernel
theorem d7 : decode yB 7 = .ok (.iconst 0, 1) := by decide +kernel
theorem d8 : decode yB 8 = .ok (.iload_n 2, 1) := by decide +kernel
theorem d9 : decode yB 9 = .ok (.invokestatic 115, 3) := by decide +kernel
theorem d12 : decode yB 12 = .ok (.istore 4, 2) := by decide +kernel
theorem d14 : decode yB 14 = .ok (.iload 4, 2) := by decide +kernel
theorem d16 : decode yB 16 = .ok (.iload_n 2, 1) := by decide +kernel
theorem d17 : decode yB 17 = .ok (.if_icmp (.eq) 40, 3) := by decide +kernel
theorem d57 : decode yB 57 = .ok (.aload_n 3, 1) := by decide +kernel
theorem d58 : decode yB 58 = .ok (.areturn, 1) := by decide +kernel
def site : List Cond := [.arrayClass .byte, Cmp5.tab] ++ staticW U16 115 Cmp5.yN
def tab : Cond := tabOf yN yB 6 (some (.array .byte)) site
def P (b : Addr) (A : Cell) (o len : Nat) (args : Array Value) (s : State) : Prop := args = #[.ref b, .int (Int32.ofNat o), .int (Int32.ofNat len)] ∧ Ch b A s ∧ o + len ≤ A.slots.size ∧ len ≤ 536870912 ∧ ∀ i, i < len → ¬ 255 < cv A (o + i)
def E (b : Addr) (A : Cell) (o len : Nat) (r : Option Value) (s u : State) : Prop := NewArr .byte "[B" len (fun j => .int (lo8 (cv A (o + j)))) r s u ∧ u.heap.size = s.heap.size + 1
/-- no char of the range above 255: a new byte[] of their low bytes -/
theorem law (l : Launch) (b : Addr) (A : Cell) (o len : Nat) : Law l yN 3 3 1 18 yB 6 (some (.array .byte)) site (P b A o len) (E b A o len) [] 1 len := by
  refine Law.of_walk (plainFor_of_name (by decide +kernel)) (by decide +kernel) (by decide +kernel) (by decide) (fun _ _ h => by rw [h.1]; rfl) (fun _ U U' hal hh h => ⟨h.1, h.2.1.mv hal hh, h.2.2⟩) (fun r U U' V V' h1 hal h2 h => ⟨NewArr.mv r U U' V V' h1 hal h2 h.1, by rw [h1, h2]; exact h.2⟩) ?_
  intro p e s m args below meth c s₁ X0 hexec hbytes hml hret hlk hnm hown hh0 W hP
  obtain ⟨rfl, hA, l1, l2, hp⟩ := hP
  have a31 := hA.1.2.2.2
  have c1 : Steps p.tables e below (s₁.setTop (entryFrame m #[.ref b, .int (Int32.ofNat o), .int (Int32.ofNat len)] 6)) (s₁.setTop (mkF m 0 #[.val (.ref b), .val (.int (Int32.ofNat o)), .val (.int (Int32.ofNat len)), .unset, .unset, .unset] [])) := entry rfl
  have c2 : Steps p.tables e below (s₁.setTop (entryFrame m #[.ref b, .int (Int32.ofNat o), .int (Int32.ofNat len)] 6)) (s₁.setTop (mkF m 1 #[.val (.ref b), .val (.int (Int32.ofNat o)), .val (.int (Int32.ofNat len)), .unset, .unset, .unset] [.int (Int32.ofNat len)])) := c1.trans (by
    refine XS.iloadN X0.here hexec rfl (hb hbytes d0) rfl ?_
    exact Steps.refl _)
  obtain ⟨T3, B3, X3, ba3, bs3, bv3, bh3, bf3, st3⟩ := X0.anew hexec (atype := .byte) (wk W (.arrayClass .byte)) rfl (by show len * 1 ≤ _; omega) (by omega) (g := (mkF m 1 #[.val (.ref b), .val (.int (Int32.ofNat o)), .val (.int (Int32.ofNat len)), .unset, .unset, .unset] [.int (Int32.ofNat len)])) rfl (hb hbytes d1) (rest := []) rfl (Nat.le_refl _) (by show 0 + len ≤ len; omega)
  rw [hh0] at ba3 st3
  have kp3 : XT.Kept s T3 := (XT.Kept.of_eq hh0).push bh3
  have hA3 := hA.keep X3.warmed.alike (kp3 _ _ hA.1.1)
  have hne : b ≠ s.heap.size := hA.1.ne
  have c4 : Steps p.tables e below (s₁.setTop (entryFrame m #[.ref b, .int (Int32.ofNat o), .int (Int32.ofNat len)] 6)) (T3.setTop (mkF m 3 #[.val (.ref b), .val (.int (Int32.ofNat o)), .val (.int (Int32.ofNat len)), .unset, .unset, .unset] [.ref s.heap.size])) := c2.trans (st3 _ (Steps.refl _))
  have c5 : Steps p.tables e below (s₁.setTop (entryFrame m #[.ref b, .int (Int32.ofNat o), .int (Int32.ofNat len)] 6)) (T3.setTop (mkF m 9 #[.val (.ref b), .val (.int (Int32.ofNat o)), .val (.int (Int32.ofNat len)), .val (.ref s.heap.size), .unset, .unset] [.int (Int32.ofNat len), .int 0, .ref s.heap.size, .int (Int32.ofNat o), .ref b])) := c4.trans (by
    refine XS.astoreN X3.here hexec rfl (hb hbytes d3) rfl rfl rfl ?_
    refine XS.aloadN X3.here hexec rfl (hb hbytes d4) rfl rfl ?_
    refine XS.iloadN X3.here hexec rfl (hb hbytes d5) rfl ?_
    refine XS.aloadN X3.here hexec rfl (hb hbytes d6) rfl rfl ?_
    refine iconstV X3.here hexec rfl 0 (hb hbytes d7) (by decide) ?_
    refine XS.iloadN X3.here hexec rfl (hb hbytes d8) rfl ?_
    exact Steps.refl _)
  obtain ⟨v6, T6, X6, E6, g6⟩ := X3.callS hexec (Cmp5.law l b A s.heap.size B3 o 0 len) hown (wks W (staticW U16 115 Cmp5.yN)) (wk W Cmp5.tab) (W := 0) (Nat.le_of_ble_eq_true rfl) (Nat.le_of_ble_eq_true rfl) (Nat.le_refl _) (by show 0 + len + 0 ≤ len; omega) (g := (mkF m 9 #[.val (.ref b), .val (.int (Int32.ofNat o)), .val (.int (Int32.ofNat len)), .val (.ref s.heap.size), .unset, .unset] [.int (Int32.ofNat len), .int (Int32.ofNat 0), .ref s.heap.size, .int (Int32.ofNat o), .ref b])) rfl (by rw [hml]; rfl) c5 (argsL := [.ref b, .int (Int32.ofNat o), .ref s.heap.size, .int (Int32.ofNat 0), .int (Int32.ofNat len)]) (rest := []) rfl rfl (by show 2 * 0 + 0 ≤ _; decide) (hb hbytes d9) (⟨rfl, hA3, ba3, hne, l1, by rw [bs3]; simp, hp⟩)
  obtain ⟨rfl, B6, p6, f6⟩ := E6
  have c7 : Steps p.tables e below (s₁.setTop (entryFrame m #[.ref b, .int (Int32.ofNat o), .int (Int32.ofNat len)] 6)) (T6.setTop (mkF m 12 #[.val (.ref b), .val (.int (Int32.ofNat o)), .val (.int (Int32.ofNat len)), .val (.ref s.heap.size), .unset, .unset] [.int (Int32.ofNat len)])) := g6
  have c8 : Steps p.tables e below (s₁.setTop (entryFrame m #[.ref b, .int (Int32.ofNat o), .int (Int32.ofNat len)] 6)) (T6.setTop (mkF m 58 #[.val (.ref b), .val (.int (Int32.ofNat o)), .val (.int (Int32.ofNat len)), .val (.ref s.heap.size), .val (.int (Int32.ofNat len)), .unset] [.ref s.heap.size])) := c7.trans (by
    refine XS.istore X6.here hexec rfl (hb hbytes d12) rfl rfl ?_
    refine XS.iload X6.here hexec rfl (hb hbytes d14) rfl ?_
    refine XS.iloadN X6.here hexec rfl (hb hbytes d16) rfl ?_
    refine XS.icmpYes X6.here hexec rfl (pc0 := 17) rfl (hb hbytes d17) rfl (ii_eq_t rfl) (by decide) rfl ?_
    refine XS.aloadN X6.here hexec rfl (hb hbytes d57) rfl rfl ?_
    exact Steps.refl _)
  have X8 := X6.wide (L' := []) (cells' := 1) (slots' := len) (fun x hx hlt => by
    simp only [List.nil_append, copyLocs, List.mem_map, List.mem_range] at hx
    obtain ⟨i, -, rfl⟩ := hx
    exact absurd hlt (Nat.lt_irrefl _)) (Nat.le_refl _) (by omega)
  exact ⟨T6, some (.ref s.heap.size), _, _, _, X8, rfl, rfl, rfl, (fun h => by cases h), ⟨⟨rfl, B6, ba3.like (X3.warmed.alike.symm.trans X6.warmed.alike) p6.1 f6.1 f6.2.1 f6.2.2.1, f6.2.1.trans bv3, by rw [X6.warmed.alike.findClass, f6.1]; exact bf3, by rw [f6.2.2.1, bs3]; simp, fun j hj => by rw [f6.2.2.2 j, if_pos (by omega)]; rfl, kp3.put p6 (Nat.le_refl _)⟩, by rw [p6.2.2, bh3, hh0]; simp⟩, fun fs hl => c8.trans (X8.areturnOut hexec rfl hret rfl (hb hbytes d58) hl)⟩
end Cmp3
namespace CodL
def yN : MethodName := ⟨"java/lang/StringUTF16", "coderFromArrayLen", "([BI)B"⟩
abbrev yB : ByteArray := jdk_52_method_15_code
theorem d0 : decode yB 0 = .ok (.iload_n 1, 1) := by decide +kernel
theorem d1 : decode yB 1 = .ok (.aload_n 0, 1) := by decide +kernel
theorem d2 : decode yB 2 = .ok (.arraylength, 1) := by decide +kernel
theorem d3 : decode yB 3 = .ok (.isub, 1) := by decide +kernel
theorem d4 : decode yB 4 = .ok (.bipush 31, 2) := by decide +kernel
theorem d6 : decode yB 6 = .ok (.iushr, 1) := by decide +kernel
theorem d7 : decode yB 7 = .ok (.i2b, 1) := by decide +kernel
theorem d8 : decode yB 8 = .ok (.ireturn, 1) := by decide +kernel
def site : List Cond := []
def tab : Cond := tabOf yN yB 2 (some .byte) site
def P (d : Addr) (B : Cell) (args : Array Value) (s : State) : Prop := args = #[.ref d, .int (Int32.ofNat B.slots.size)] ∧ Arr .byte d B s
def E (r : Option Value) (s u : State) : Prop := XT.PureE (some (.int 0)) r s u
/-- an array as long as the number of chars: LATIN1 -/
theorem law (l : Launch) (d : Addr) (B : Cell) : Law l yN 2 2 0 0 yB 2 (some .byte) site (P d B) E [] 0 0 := by
  refine Law.of_walk (plainFor_of_name (by decide +kernel)) (by decide +kernel) (by decide +kernel) (by decide) (fun _ _ h => by rw [h.1]; rfl) (fun _ U U' hal hh h => ⟨h.1, h.2.mv hal hh⟩) (fun r U U' V V' h1 hal h2 h => XT.PureE.mv r U U' V V' h1 hal h2 h) ?_
  intro p e s m args below meth c s₁ X0 hexec hbytes hml hret hlk hnm hown hh0 W hP
  obtain ⟨rfl, hB⟩ := hP
  have hB0 := hB.mv X0.warmed.alike hh0
  have c1 : Steps p.tables e below (s₁.setTop (entryFrame m #[.ref d, .int (Int32.ofNat B.slots.size)] 2)) (s₁.setTop (mkF m 0 #[.val (.ref d), .val (.int (Int32.ofNat B.slots.size))] [])) := entry rfl
  have c2 : Steps p.tables e below (s₁.setTop (entryFrame m #[.ref d, .int (Int32.ofNat B.slots.size)] 2)) (s₁.setTop (mkF m 2 #[.val (.ref d), .val (.int (Int32.ofNat B.slots.size))] [.ref d, .int (Int32.ofNat B.slots.size)])) := c1.trans (by
    refine XS.iloadN X0.here hexec rfl (hb hbytes d0) rfl ?_
    refine XS.aloadN X0.here hexec rfl (hb hbytes d1) rfl rfl ?_
    exact Steps.refl _)
  have c3 : Steps p.tables e below (s₁.setTop (entryFrame m #[.ref d, .int (Int32.ofNat B.slots.size)] 2)) (s₁.setTop (mkF m 8 #[.val (.ref d), .val (.int (Int32.ofNat B.slots.size))] [.int (lo8 (ushr (Int32.ofNat B.slots.size - Int32.ofNat B.slots.size) 31))])) := c2.trans (by
    refine X0.alen hexec hB0 rfl rfl (hb hbytes d2) ?_
    refine XS.isub X0.here hexec rfl (hb hbytes d3) rfl ?_
    refine bipushV X0.here hexec rfl 31 (hb hbytes d4) (by decide) ?_
    refine iushr X0.here hexec rfl (hb hbytes d6) rfl ?_
    refine i2b X0.here hexec rfl (hb hbytes d7) rfl ?_
    exact Steps.refl _)
  have e0 : lo8 (ushr (Int32.ofNat B.slots.size - Int32.ofNat B.slots.size) 31) = 0 := by rw [Int32.sub_self]; decide
  rw [e0] at c3
  exact ⟨s₁, some (.int 0), _, _, _, X0, rfl, rfl, rfl, (fun h => by cases h), ⟨rfl, hh0⟩, fun fs hl => c3.trans (X0.ireturnOut hexec hret rfl (Or.inr (Or.inr (Or.inl rfl))) (hb hbytes d8) hl)⟩
end CodL
/-- the String at a is Latin-1 over a new byte[] (the heap's one new cell): the low bytes of the len chars of A from o on; every cell but a is kept -/
def Got (a : Addr) (D : Cell) (fV fC : Field) (A : Cell) (o len : Nat) (r : Option Value) (s u : State) : Prop := r = none ∧ ∃ D' V : Cell, Blank "java/lang/String" a D' u ∧ Same D D' [fV.slot, fC.slot] ∧ D'.slots[fV.slot]? = some (.ref s.heap.size) ∧ D'.slots[fC.slot]? = some (.int 0) ∧ Arr .byte s.heap.size V u ∧ V.vm = .none ∧ u.vm.findClass "[B" = some V.cls ∧ V.slots.size = len ∧ (∀ j, j < len → V.slots[j]? = some (.int (lo8 (cv A (o + j))))) ∧ (∀ (y : Addr) (c : Cell), y ≠ a → s.heap[y]? = some c → u.heap[y]? = some c) ∧ u.heap.size = s.heap.size + 1
theorem Got.mv {a : Addr} {D A : Cell} {fV fC : Field} {o len : Nat} : ∀ r (U U' V V' : State), U'.heap = U.heap → V.vm.Alike V'.vm → V'.heap = V.heap → Got a D fV fC A o len r U V → Got a D fV fC A o len r U' V' :=
  fun r U U' V V' h1 hal h2 ⟨e0, D', X, a1, a2, a3, a4, a5, a6, a7, a8, a9, a10, a11⟩ => ⟨e0, D', X, a1.mv hal h2, a2, by rw [h1]; exact a3, a4, by rw [h1]; exact a5.mv hal h2, a6, by rw [hal.findClass]; exact a7, a8, a9, by rw [h1, h2]; exact a10, by rw [h1, h2]; exact a11⟩
namespace New4
def yN : MethodName := ⟨"java/lang/String", "<init>", "([CIILjava/lang/Void;)V"⟩
abbrev yB : ByteArray := jdk_42_method_149_code
theorem d0 : decode yB 0 = .ok (.aload_n 0, 1) := by decide +kernel
theorem d1 : decode yB 1 = .ok (.invokespecial 1, 3) := by decide +kernel
theorem d4 : decode yB 4 = .ok (.iload_n 3, 1) := by decide +kernel
theorem d5 : decode yB 5 = .ok (.ifCond (.ne) 22, 3) := by decide +kernel
theorem d27 : decode yB 27 = .ok (.getstatic 38, 3) := by decide +kernel
theorem d30 : decode yB 30 = .ok (.ifCond (.eq) 28, 3) := by decide +kernel
theorem d33 : decode yB 33 = .ok (.aload_n 1, 1) := by decide +kernel
theorem d34 : decode yB 34 = .ok (.iload_n 2, 1) := by decide +kernel
theorem d35 : decode yB 35 = .ok (.iload_n 3, 1) := by decide +kernel
theorem d36 : decode yB 36 = .ok (.invokestatic 177, 3) := by decide +kernel
theorem d39 : decode yB 39 = .ok (.astore 5, 2) := by decide +kernel
theorem d41 : decode yB 41 = .ok (.aload_n 0, 1) := by decide +kernel
theorem d42 : decode yB 42 = .ok (.aload 5, 2) := by decide +kernel
theorem d44 : decode yB 44 = .ok (.iload_n 3, 1) := by decide +kernel
theorem d45 : decode yB 45 = .ok (.invokestatic 47, 3) := by decide +kernel
theorem d48 : decode yB 48 = .ok (.putfield 15, 3) := by decide +kernel
theorem d51 : decode yB 51 = .ok (.aload_n 0, 1) := by decide +kernel
theorem d52 : decode yB 52 = .ok (.aload 5, 2) := by decide +kernel
theorem d54 : decode yB 54 = .ok (.putfield 9, 3) := by decide +kernel
theorem d57 : decode yB 57 = .ok (.return_, 1) := by decide +kernel
def site : List Cond := [.fieldLink "java/lang/String" 38 "java/lang/String" "COMPACT_STRINGS" "Z", Cmp3.tab, CodL.tab, .laysFinal "java/lang/String" "java/lang/String" "value" "[B", .fieldLink "java/lang/String" 9 "java/lang/String" "value" "[B", .laysFinal "java/lang/String" "java/lang/String" "coder" "B", .fieldLink "java/lang/String" 15 "java/lang/String" "coder" "B"] ++ objW "java/lang/String" 1 ++ staticW "java/lang/String" 177 Cmp3.yN ++ staticW "java/lang/String" 47 CodL.yN
def tab : Cond := tabOf yN yB 6 none site
def P (a : Addr) (D : Cell) (fV fC : Field) (b : Addr) (A : Cell) (z : Int32) (o len : Nat) (args : Array Value) (s : State) : Prop := args = #[.ref a, .ref b, .int (Int32.ofNat o), .int (Int32.ofNat len), .null] ∧ Blank "java/lang/String" a D s ∧ Found "java/lang/String" "value" "[B" fV s ∧ Found "java/lang/String" "coder" "B" fC s ∧ Ch b A s ∧ StaticIs s "java/lang/String" "COMPACT_STRINGS" "Z" (.int z) ∧ ¬ z = 0 ∧ 0 < len ∧ o + len ≤ A.slots.size ∧ len ≤ 536870912 ∧ ∀ i, i < len → ¬ 255 < cv A (o + i)
def E (a : Addr) (D : Cell) (fV fC : Field) (A : Cell) (o len : Nat) (r : Option Value) (s u : State) : Prop := Got a D fV fC A o len r s u
/-- len > 0, no char of the range above 255: a Latin-1 String of their low bytes -/
theorem law (l : Launch) (a : Addr) (D : Cell) (fV fC : Field) (b : Addr) (A : Cell) (z : Int32) (o len : Nat) : Law l yN 5 4 2 35 yB 6 none site (P a D fV fC b A z o len) (E a D fV fC A o len) [⟨a, fC.slot⟩, ⟨a, fV.slot⟩] 1 len := by
  refine Law.of_walk (plainFor_of_name (by decide +kernel)) (by decide +kernel) (by decide +kernel) (by decide) (fun _ _ h => by rw [h.1]; rfl) (fun _ U U' hal hh h => ⟨h.1, h.2.1.mv hal hh, h.2.2.1.al hal, h.2.2.2.1.al hal, h.2.2.2.2.1.mv hal hh, h.2.2.2.2.2.1.there hal hh, h.2.2.2.2.2.2⟩) (fun r U U' V V' h1 hal h2 h => Got.mv r U U' V V' h1 hal h2 h) ?_
  intro p e s m args below meth c s₁ X0 hexec hbytes hml hret hlk hnm hown hh0 W hP
  obtain ⟨rfl, hB, f1, f2, hA, s1, hz, l0, l1, l2, hp⟩ := hP
  have a31 := hA.1.2.2.2
  have c1 : Steps p.tables e below (s₁.setTop (entryFrame m #[.ref a, .ref b, .int (Int32.ofNat o), .int (Int32.ofNat len), .null] 6)) (s₁.setTop (mkF m 0 #[.val (.ref a), .val (.ref b), .val (.int (Int32.ofNat o)), .val (.int (Int32.ofNat len)), .val .null, .unset] [])) := entry rfl
  have c2 : Steps p.tables e below (s₁.setTop (entryFrame m #[.ref a, .ref b, .int (Int32.ofNat o), .int (Int32.ofNat len), .null] 6)) (s₁.setTop (mkF m 1 #[.val (.ref a), .val (.ref b), .val (.int (Int32.ofNat o)), .val (.int (Int32.ofNat len)), .val .null, .unset] [.ref a])) := c1.trans (by
    refine XS.aloadN X0.here hexec rfl (hb hbytes d0) rfl rfl ?_
    exact Steps.refl _)
  obtain ⟨T3, X3, q3, st3⟩ := X0.oinit hexec hown (wks W (objW "java/lang/String" 1)) (g := (mkF m 1 #[.val (.ref a), .val (.ref b), .val (.int (Int32.ofNat o)), .val (.int (Int32.ofNat len)), .val .null, .unset] [.ref a])) rfl (by rw [hml]; rfl) (rest := []) rfl (hb hbytes d1) (W := 0) (by show 2 * 0 + 0 ≤ _; decide) (Nat.le_of_ble_eq_true rfl) (Nat.le_of_ble_eq_true rfl)
  have hh3 := q3.trans hh0
  have c4 : Steps p.tables e below (s₁.setTop (entryFrame m #[.ref a, .ref b, .int (Int32.ofNat o), .int (Int32.ofNat len), .null] 6)) (T3.setTop (mkF m 27 #[.val (.ref a), .val (.ref b), .val (.int (Int32.ofNat o)), .val (.int (Int32.ofNat len)), .val .null, .unset] [])) := (c2.trans (st3 _ (Steps.refl _))).trans (by
    refine XS.iloadN X3.here hexec rfl (hb hbytes d4) rfl ?_
    refine XS.ifYes X3.here hexec rfl (pc0 := 5) rfl (hb hbytes d5) rfl (i0_ne_t (nz32 (by omega) l0)) (by decide) rfl ?_
    exact Steps.refl _)
  obtain ⟨T5, X5, q5, st5⟩ := X3.sget hexec hown (wk W (.fieldLink "java/lang/String" 38 "java/lang/String" "COMPACT_STRINGS" "Z")) s1 (fun _ _ h => by rw [hh3]; exact h) (g := (mkF m 27 #[.val (.ref a), .val (.ref b), .val (.int (Int32.ofNat o)), .val (.int (Int32.ofNat len)), .val .null, .unset] [])) rfl (hb hbytes d27)
  have hh5 := q5.trans hh3
  have c6 : Steps p.tables e below (s₁.setTop (entryFrame m #[.ref a, .ref b, .int (Int32.ofNat o), .int (Int32.ofNat len), .null] 6)) (T5.setTop (mkF m 30 #[.val (.ref a), .val (.ref b), .val (.int (Int32.ofNat o)), .val (.int (Int32.ofNat len)), .val .null, .unset] [.int z])) := c4.trans (st5 _ (Steps.refl _))
  have c7 : Steps p.tables e below (s₁.setTop (entryFrame m #[.ref a, .ref b, .int (Int32.ofNat o), .int (Int32.ofNat len), .null] 6)) (T5.setTop (mkF m 36 #[.val (.ref a), .val (.ref b), .val (.int (Int32.ofNat o)), .val (.int (Int32.ofNat len)), .val .null, .unset] [.int (Int32.ofNat len), .int (Int32.ofNat o), .ref b])) := c6.trans (by
    refine XS.ifNo X5.here hexec rfl (hb hbytes d30) rfl (i0_eq_f hz) ?_
    refine XS.aloadN X5.here hexec rfl (hb hbytes d33) rfl rfl ?_
    refine XS.iloadN X5.here hexec rfl (hb hbytes d34) rfl ?_
    refine XS.iloadN X5.here hexec rfl (hb hbytes d35) rfl ?_
    exact Steps.refl _)
  obtain ⟨v8, T8, X8, E8, g8⟩ := X5.callS hexec (Cmp3.law l b A o len) hown (wks W (staticW "java/lang/String" 177 Cmp3.yN)) (wk W Cmp3.tab) (W := 0) (Nat.le_of_ble_eq_true rfl) (Nat.le_of_ble_eq_true rfl) (Nat.le_refl _) (by show 0 + len ≤ len; omega) (g := (mkF m 36 #[.val (.ref a), .val (.ref b), .val (.int (Int32.ofNat o)), .val (.int (Int32.ofNat len)), .val .null, .unset] [.int (Int32.ofNat len), .int (Int32.ofNat o), .ref b])) rfl (by rw [hml]; rfl) c7 (argsL := [.ref b, .int (Int32.ofNat o), .int (Int32.ofNat len)]) (rest := []) rfl rfl (by show 2 * 0 + 0 ≤ _; decide) (hb hbytes d36) (⟨rfl, hA.mv X5.warmed.alike hh5, l1, l2, hp⟩)
  obtain ⟨e8, z8⟩ := E8
  obtain ⟨rfl, N, n1, n2, n3, n4, n5, n6⟩ := NewArr.mv _ T5 s _ _ hh5.symm (Vm.Alike.refl _) rfl e8
  rw [hh5] at z8
  have hB1 := hB.keep X8.warmed.alike (n6 _ _ hB.1)
  have hne : s.heap.size ≠ a := (Nat.ne_of_lt (Array.getElem?_eq_some_iff.mp hB.1).1).symm
  have c9 : Steps p.tables e below (s₁.setTop (entryFrame m #[.ref a, .ref b, .int (Int32.ofNat o), .int (Int32.ofNat len), .null] 6)) (T8.setTop (mkF m 39 #[.val (.ref a), .val (.ref b), .val (.int (Int32.ofNat o)), .val (.int (Int32.ofNat len)), .val .null, .unset] [.ref s.heap.size])) := g8
  have c10 : Steps p.tables e below (s₁.setTop (entryFrame m #[.ref a, .ref b, .int (Int32.ofNat o), .int (Int32.ofNat len), .null] 6)) (T8.setTop (mkF m 45 #[.val (.ref a), .val (.ref b), .val (.int (Int32.ofNat o)), .val (.int (Int32.ofNat len)), .val .null, .val (.ref s.heap.size)] [.int (Int32.ofNat N.slots.size), .ref s.heap.size, .ref a])) := by
    have hc : Steps p.tables e below (s₁.setTop (entryFrame m #[.ref a, .ref b, .int (Int32.ofNat o), .int (Int32.ofNat len), .null] 6)) (T8.setTop (mkF m 45 #[.val (.ref a), .val (.ref b), .val (.int (Int32.ofNat o)), .val (.int (Int32.ofNat len)), .val .null, .val (.ref s.heap.size)] [.int (Int32.ofNat len), .ref s.heap.size, .ref a])) := c9.trans (by
      refine XS.astore X8.here hexec rfl (hb hbytes d39) rfl rfl rfl ?_
      refine XS.aloadN X8.here hexec rfl (hb hbytes d41) rfl rfl ?_
      refine XS.aload X8.here hexec rfl (hb hbytes d42) rfl rfl ?_
      refine XS.iloadN X8.here hexec rfl (hb hbytes d44) rfl ?_
      exact Steps.refl _)
    rw [n4]; exact hc
  obtain ⟨v11, T11, X11, E11, g11⟩ := X8.callS hexec (CodL.law l s.heap.size N) hown (wks W (staticW "java/lang/String" 47 CodL.yN)) (wk W CodL.tab) (W := 1) (Nat.le_of_ble_eq_true rfl) (Nat.le_of_ble_eq_true rfl) (Nat.le_refl _) (by show 0 + len + 0 ≤ len; omega) (g := (mkF m 45 #[.val (.ref a), .val (.ref b), .val (.int (Int32.ofNat o)), .val (.int (Int32.ofNat len)), .val .null, .val (.ref s.heap.size)] [.int (Int32.ofNat N.slots.size), .ref s.heap.size, .ref a])) rfl (by rw [hml]; rfl) c10 (argsL := [.ref s.heap.size, .int (Int32.ofNat N.slots.size)]) (rest := [.ref a]) rfl rfl (by show 2 * 0 + (1 + 0) ≤ _; decide) (hb hbytes d45) (⟨rfl, n1⟩)
  obtain ⟨rfl, q11⟩ := E11
  have hB11 := hB1.mv (X8.warmed.alike.symm.trans X11.warmed.alike) q11
  have c12 : Steps p.tables e below (s₁.setTop (entryFrame m #[.ref a, .ref b, .int (Int32.ofNat o), .int (Int32.ofNat len), .null] 6)) (T11.setTop (mkF m 48 #[.val (.ref a), .val (.ref b), .val (.int (Int32.ofNat o)), .val (.int (Int32.ofNat len)), .val .null, .val (.ref s.heap.size)] [.int 0, .ref a])) := g11
  obtain ⟨T13, X13, p13, bl13, sl13, st13⟩ := X11.finit hexec hown (wk W (.fieldLink "java/lang/String" 15 "java/lang/String" "coder" "B")) (Or.inr ⟨_, (wk W (.laysFinal "java/lang/String" "java/lang/String" "coder" "B"))⟩) (Or.inl ⟨rfl, hnm⟩) f2 (Or.inl rfl) hB11 (t := .byte) (by decide +kernel) rfl (g := (mkF m 48 #[.val (.ref a), .val (.ref b), .val (.int (Int32.ofNat o)), .val (.int (Int32.ofNat len)), .val .null, .val (.ref s.heap.size)] [.int 0, .ref a])) rfl (rest := []) rfl (hb hbytes d48)
  have c14 : Steps p.tables e below (s₁.setTop (entryFrame m #[.ref a, .ref b, .int (Int32.ofNat o), .int (Int32.ofNat len), .null] 6)) (T13.setTop (mkF m 54 #[.val (.ref a), .val (.ref b), .val (.int (Int32.ofNat o)), .val (.int (Int32.ofNat len)), .val .null, .val (.ref s.heap.size)] [.ref s.heap.size, .ref a])) := (c12.trans (st13 _ (Steps.refl _))).trans (by
    refine XS.aloadN X13.here hexec rfl (hb hbytes d51) rfl rfl ?_
    refine XS.aload X13.here hexec rfl (hb hbytes d52) rfl rfl ?_
    exact Steps.refl _)
  obtain ⟨T15, X15, p15, bl15, sl15, st15⟩ := X13.finit hexec hown (wk W (.fieldLink "java/lang/String" 9 "java/lang/String" "value" "[B")) (Or.inr ⟨_, (wk W (.laysFinal "java/lang/String" "java/lang/String" "value" "[B"))⟩) (Or.inl ⟨rfl, hnm⟩) f1 (Or.inl rfl) bl13 (t := (.array .byte)) (by decide +kernel) rfl (g := (mkF m 54 #[.val (.ref a), .val (.ref b), .val (.int (Int32.ofNat o)), .val (.int (Int32.ofNat len)), .val .null, .val (.ref s.heap.size)] [.ref s.heap.size, .ref a])) rfl (rest := []) rfl (hb hbytes d54)
  have c16 : Steps p.tables e below (s₁.setTop (entryFrame m #[.ref a, .ref b, .int (Int32.ofNat o), .int (Int32.ofNat len), .null] 6)) (T15.setTop (mkF m 57 #[.val (.ref a), .val (.ref b), .val (.int (Int32.ofNat o)), .val (.int (Int32.ofNat len)), .val .null, .val (.ref s.heap.size)] [])) := c14.trans (st15 _ (Steps.refl _))
  have ap := apart (Or.inr ⟨_, (wk W (.laysFinal "java/lang/String" "java/lang/String" "value" "[B"))⟩) (Or.inr ⟨_, (wk W (.laysFinal "java/lang/String" "java/lang/String" "coder" "B"))⟩) f1 f2 (t₁ := .array .byte) (t₂ := .byte) (by decide +kernel) (by decide +kernel) (by decide)
  have al := X8.warmed.alike.symm.trans X15.warmed.alike
  have n7 : T11.heap[s.heap.size]? = some N := by rw [q11]; exact n1.1
  exact ⟨T15, none, _, _, _, X15, by simp, rfl, by omega, (fun _ => rfl), ⟨rfl, _, N, bl15, ((Same.refl D _).set _ (by simp)).set _ (by simp), sl15, (Cell.slots_setSlot_ne _ ap).trans sl13, n1.keep al (p15.other hne (p13.other hne n7)), n2, by rw [al.findClass]; exact n3, n4, n5, fun y c h1 h2 => p15.other h1 (p13.other h1 (by rw [q11]; exact n6 y c h2)), by rw [p15.2.2, p13.2.2, q11]; exact z8⟩, fun fs hl => c16.trans (X15.returnOut hexec hret (hb hbytes d57) hl)⟩
end New4
namespace New1
def yN : MethodName := ⟨"java/lang/String", "<init>", "([C)V"⟩
abbrev yB : ByteArray := jdk_42_method_3_code
theorem d0 : decode yB 0 = .ok (.aload_n 0, 1) := by decide +kernel
theorem d1 : decode yB 1 = .ok (.aload_n 1, 1) := by decide +kernel
theorem d2 : decode yB 2 = .ok (.iconst 0, 1) := by decide +kernel
theorem d3 : decode yB 3 = .ok (.aload_n 1, 1) := by decide +kernel
theorem d4 : decode yB 4 = .ok (.arraylength, 1) := by decide +kernel
theorem d5 : decode yB 5 = .ok (.aconst_null, 1) := by decide +kernel
theorem d6 : decode yB 6 = .ok (.invokespecial 27, 3) := by decide +kernel
theorem d9 : decode yB 9 = .ok (.return_, 1) := by decide +kernel
def site : List Cond := [New4.tab] ++ initW "java/lang/String" 27 New4.yN
def tab : Cond := tabOf yN yB 2 none site
def P (a : Addr) (D : Cell) (fV fC : Field) (b : Addr) (A : Cell) (z : Int32) (args : Array Value) (s : State) : Prop := args = #[.ref a, .ref b] ∧ Blank "java/lang/String" a D s ∧ Found "java/lang/String" "value" "[B" fV s ∧ Found "java/lang/String" "coder" "B" fC s ∧ Ch b A s ∧ StaticIs s "java/lang/String" "COMPACT_STRINGS" "Z" (.int z) ∧ ¬ z = 0 ∧ 0 < A.slots.size ∧ A.slots.size ≤ 536870912 ∧ ∀ i, i < A.slots.size → ¬ 255 < cv A i
def E (a : Addr) (D : Cell) (fV fC : Field) (A : Cell) (r : Option Value) (s u : State) : Prop := Got a D fV fC A 0 A.slots.size r s u
/-- new String(chars), not empty, no char above 255: a Latin-1 String of their low bytes -/
theorem law (l : Launch) (a : Addr) (D : Cell) (fV fC : Field) (b : Addr) (A : Cell) (z : Int32) : Law l yN 2 1 3 52 yB 2 none site (P a D fV fC b A z) (E a D fV fC A) [⟨a, fC.slot⟩, ⟨a, fV.slot⟩] 1 A.slots.size := by
  refine Law.of_walk (plainFor_of_name (by decide +kernel)) (by decide +kernel) (by decide +kernel) (by decide) (fun _ _ h => by rw [h.1]; rfl) (fun _ U U' hal hh h => ⟨h.1, h.2.1.mv hal hh, h.2.2.1.al hal, h.2.2.2.1.al hal, h.2.2.2.2.1.mv hal hh, h.2.2.2.2.2.1.there hal hh, h.2.2.2.2.2.2⟩) (fun r U U' V V' h1 hal h2 h => Got.mv r U U' V V' h1 hal h2 h) ?_
  intro p e s m args below meth c s₁ X0 hexec hbytes hml hret hlk hnm hown hh0 W hP
  obtain ⟨rfl, hB, f1, f2, hA, s1, hz, l0, l2, hp⟩ := hP
  have c1 : Steps p.tables e below (s₁.setTop (entryFrame m #[.ref a, .ref b] 2)) (s₁.setTop (mkF m 0 #[.val (.ref a), .val (.ref b)] [])) := entry rfl
  have c2 : Steps p.tables e below (s₁.setTop (entryFrame m #[.ref a, .ref b] 2)) (s₁.setTop (mkF m 6 #[.val (.ref a), .val (.ref b)] [.null, .int (Int32.ofNat A.slots.size), .int 0, .ref b, .ref a])) := c1.trans (by
    refine XS.aloadN X0.here hexec rfl (hb hbytes d0) rfl rfl ?_
    refine XS.aloadN X0.here hexec rfl (hb hbytes d1) rfl rfl ?_
    refine iconstV X0.here hexec rfl 0 (hb hbytes d2) (by decide) ?_
    refine XS.aloadN X0.here hexec rfl (hb hbytes d3) rfl rfl ?_
    refine X0.alen hexec (hA.1.mv X0.warmed.alike hh0) rfl rfl (hb hbytes d4) ?_
    refine XS.aconstNull X0.here hexec rfl (hb hbytes d5) ?_
    exact Steps.refl _)
  obtain ⟨v3, T3, X3, E3, g3⟩ := X0.callN hexec (New4.law l a D fV fC b A z 0 A.slots.size) rfl hown (wks W (initW "java/lang/String" 27 New4.yN)) (W New4.tab (by simp only [site, List.mem_cons, List.mem_append, true_or, or_true])) (W := 0) (Nat.le_of_ble_eq_true rfl) (Nat.le_of_ble_eq_true rfl) (Nat.le_refl _) (by show 0 + A.slots.size ≤ A.slots.size; omega) (g := (mkF m 6 #[.val (.ref a), .val (.ref b)] [.null, .int (Int32.ofNat A.slots.size), .int (Int32.ofNat 0), .ref b, .ref a])) rfl (by rw [hml]; rfl) c2 (argsL := [.ref b, .int (Int32.ofNat 0), .int (Int32.ofNat A.slots.size), .null]) (rest := []) rfl rfl (by show 2 * 0 + 0 ≤ _; decide) (hb hbytes d6) (⟨rfl, hB.mv X0.warmed.alike hh0, f1.al X0.warmed.alike, f2.al X0.warmed.alike, hA.mv X0.warmed.alike hh0, s1.there X0.warmed.alike hh0, hz, l0, by omega, l2, fun i hi => by rw [Nat.zero_add]; exact hp i hi⟩)
  have e0 := Got.mv _ s₁ s _ _ hh0.symm (Vm.Alike.refl _) rfl E3
  obtain rfl := e0.1
  have c4 : Steps p.tables e below (s₁.setTop (entryFrame m #[.ref a, .ref b] 2)) (T3.setTop (mkF m 9 #[.val (.ref a), .val (.ref b)] [])) := g3
  exact ⟨T3, none, _, _, _, X3, by simp, rfl, by omega, (fun _ => rfl), e0, fun fs hl => c4.trans (X3.returnOut hexec hret (hb hbytes d9) hl)⟩
theorem pays {l : Launch} {R : Room} {p : Program} {e : Env} {below : List Frame} {s : State} {sargs : Array Value} {len W : Nat} (a : Addr) (D : Cell) (fV fC : Field) (b : Addr) (A : Cell) (z : Int32) (htab : tab.before sargs s = true) (hfr : 4 ≤ R.frames) (hlo : W + 65 ≤ R.locals) :
    Back l R p e below s sargs yN len W (fun A₁ a₁ => A₁.cells + 1 ≤ R.cells ∧ A₁.slots + A.slots.size ≤ R.slots ∧ P a D fV fC b A z a₁ A₁.U) (fun A₁ _ v₁ B₁ => E a D fV fC A v₁ A₁.U B₁.U ∧ B₁.locs = A₁.locs ++ [⟨a, fC.slot⟩, ⟨a, fV.slot⟩] ∧ B₁.cells = A₁.cells + 1 ∧ B₁.slots = A₁.slots + A.slots.size) :=
  (law l a D fV fC b A z).pays htab hfr (by omega)
end New1
/-- the byte, read back as charAt reads it, is the char -/
theorem lo8_mask {x : Int32} (h0 : ¬ x < 0) (h1 : ¬ 255 < x) : lo8 x &&& 255 = x := by
  have t : ∀ k : Fin 256, lo8 (Int32.ofNat k.val) &&& 255 = Int32.ofNat k.val := by decide +kernel
  rw [Int32.lt_iff_toInt_lt] at h0 h1
  have e0 : (0 : Int32).toInt = 0 := rfl
  have e1 : (255 : Int32).toInt = 255 := rfl
  obtain ⟨k, hk⟩ : ∃ k : Nat, x.toInt = k := ⟨x.toInt.toNat, by omega⟩
  have hx : x = Int32.ofNat k := Int32.toInt_inj.mp (by rw [hk, Int32.toInt_ofNat_small (by omega)])
  rw [hx]
  exact t ⟨k, by omega⟩
end StrChars
namespace StrChars.Road
open Jvm Sem ClassFile Op Lib Jvm.Stand Jvm.Free Jvm.Free.XT
open Jvm.Lib.Cold (StaticIs)
abbrev ST : String := "java/lang/String"
/-- every table word that New1's law asks, flat -/
abbrev words : List Jvm.Cond := [.code New1.yN New1.yB 2 none, .initialized ST, .methodLink ST 27 New4.yN, .instanceMethod New4.yN,
  .code New4.yN New4.yB 6 none, .fieldLink ST 38 ST "COMPACT_STRINGS" "Z", .laysFinal ST ST "value" "[B", .fieldLink ST 9 ST "value" "[B", .laysFinal ST ST "coder" "B", .fieldLink ST 15 ST "coder" "B",
  .methodLink ST 1 Lib.objectInit, .instanceMethod Lib.objectInit, .code Lib.objectInit ⟨#[0xb1]⟩ 1 none, .methodLink ST 177 Cmp3.yN, .static Cmp3.yN, .methodLink ST 47 CodL.yN, .static CodL.yN,
  .code Cmp3.yN Cmp3.yB 6 (some (.array .byte)), .initialized U16, .arrayClass .byte, .methodLink U16 115 Cmp5.yN, .static Cmp5.yN, .code Cmp5.yN Cmp5.yB 7 (some .int), .code CodL.yN CodL.yB 2 (some .byte)]
theorem tab_of {a : Array Value} {s : State} (h : ∀ w ∈ words, w.before a s = true) : New1.tab.before a s = true := by
  have h5 : Cmp5.tab.before a s = true := unparts (wk h (.code Cmp5.yN Cmp5.yB 7 (some .int))) (wks h (.initialized Cmp5.yN.cls :: Cmp5.site))
  have hc : CodL.tab.before a s = true := unparts (wk h (.code CodL.yN CodL.yB 2 (some .byte))) (wks h (.initialized CodL.yN.cls :: CodL.site))
  have q5 : ∀ w ∈ Cmp5.tab :: words, w.before a s = true := fun w hw => (List.mem_cons.mp hw).elim (fun e => e ▸ h5) (h w)
  have h3 : Cmp3.tab.before a s = true := unparts (wk q5 (.code Cmp3.yN Cmp3.yB 6 (some (.array .byte)))) (wks q5 (.initialized Cmp3.yN.cls :: Cmp3.site))
  have q3 : ∀ w ∈ Cmp3.tab :: CodL.tab :: words, w.before a s = true := fun w hw => (List.mem_cons.mp hw).elim (fun e => e ▸ h3) fun hw => (List.mem_cons.mp hw).elim (fun e => e ▸ hc) (h w)
  have h4 : New4.tab.before a s = true := unparts (wk q3 (.code New4.yN New4.yB 6 none)) (wks q3 (.initialized New4.yN.cls :: New4.site))
  have q4 : ∀ w ∈ New4.tab :: words, w.before a s = true := fun w hw => (List.mem_cons.mp hw).elim (fun e => e ▸ h4) (h w)
  exact unparts (wk q4 (.code New1.yN New1.yB 2 none)) (wks q4 (.initialized New1.yN.cls :: New1.site))
/-- the words ride from the start Z to the walk's own state -/
theorem moved {Z s : State} {a0 args : Array Value} (hZ : Z.Warmed39 s.vm) (hw : ∀ d ∈ words, d.before a0 Z = true) : ∀ d ∈ words, d.before args s = true := fun d hd => by
  have q := hw d hd
  have t : ∀ d ∈ words, d = .arrayClass .byte ∨ (d.onTables && d.keepsFace) = true := by decide +kernel
  rcases t d hd with rfl | t
  · exact RoadKit.mvA hZ q
  · exact RoadKit.mv hZ q t
/-- WHAT COMES BACK, over the tables of the start Z: h the heap at the call, h' behind it -/
def Q (Z : State) (x : Addr) (A : Cell) (h : Heap) (v : Option Value) (h' : Heap) (L : List Loc) : Prop := v = none ∧ (∀ y ∈ L, y.base = x) ∧ RoadKit.Keep h h' [x] ∧ h'.size = h.size + 1 ∧ RoadKit.Exa Z h' x ST ∧ RoadKit.Fld Z h' x ST "value" "[B" (.ref h.size) ∧ RoadKit.Fld Z h' x ST "coder" "B" (.int 0) ∧
  (∃ V : Cell, RoadKit.Arr Z h' h.size V .byte ∧ V.vm = .none ∧ Z.vm.findClass "[B" = some V.cls ∧ V.slots.size = A.slots.size ∧ ∀ j, j < A.slots.size → V.slots[j]? = some (.int (lo8 (cv A j)))) ∧
  ∀ (O n d : String) (w : Value), RoadKit.Fld Z h x O n d w → RoadKit.slotOf Z O n d ≠ RoadKit.slotOf Z ST "value" "[B" → RoadKit.slotOf Z O n d ≠ RoadKit.slotOf Z ST "coder" "B" → RoadKit.Fld Z h' x O n d w
/-- **new String(chars) AT A CALL, IN THE ROAD'S FORM**: for specialBack behind newO: x the fresh String, b the char[] with the cell A -/
theorem back {p : Program} {l : Launch} {e : Env} {R : Room} {s : State} {args : Array Value} {below : List Frame} {len W : Nat} {Z : State} {a0 : Array Value} {h : Heap} (hZ : Z.Warmed39 s.vm) (hw : ∀ d ∈ words, d.before a0 Z = true) {kI : Nat} (wi : (Jvm.Cond.instantiable ST kI).before a0 Z = true)
    {x b : Addr} {A : Cell} {z : Int32} {v0 c0 : Value} (E : RoadKit.Exa Z h x ST) (V : RoadKit.Fld Z h x ST "value" "[B" v0) (C : RoadKit.Fld Z h x ST "coder" "B" c0) (K : RoadKit.Arr Z h b A .char) (hty : Typed .char A) (S : RoadKit.Sta Z h ST "COMPACT_STRINGS" "Z" (.int z)) (hz : ¬ z = 0)
    (l0 : 0 < A.slots.size) (l2 : A.slots.size ≤ 536870912) (hp : ∀ i, i < A.slots.size → ¬ 255 < cv A i) (hfr : 4 ≤ R.frames) (hlo : W + 65 ≤ R.locals) :
    Back l R p e below s args New1.yN len W (fun P a => a = #[.ref x, .ref b] ∧ P.U.heap = h ∧ P.cells + 1 ≤ R.cells ∧ P.slots + A.slots.size ≤ R.slots)
      (fun P _ v B => ∃ L, Q Z x A h v B.U.heap L ∧ B.locs = P.locs ++ L ∧ B.cells = P.cells + 1 ∧ B.slots = P.slots + A.slots.size) := by
  intro m meth c P g ig mk a X hg hsize hdg hW hn hp'
  obtain ⟨rfl, rfl, r1, r2⟩ := hp'
  have al : Z.vm.Alike P.U.vm := hZ.alike.trans X.warmed.alike
  obtain ⟨D, cfV, kV, iV, fV, hD, gV, stV, knV, obV, asV, slV⟩ := id V
  obtain ⟨D', cfC, kC, iC, fC, hD', gC, stC, -, -, asC, slC⟩ := id C
  cases hD.symm.trans hD'
  obtain ⟨D2, kD, e1, e2, e3, e4, e5⟩ := id E
  cases hD.symm.trans e1
  obtain ⟨c2, k2, i1, i2, i3, -⟩ := Cond.instantiable_spec wi
  cases e2.symm.trans i1
  cases e3.symm.trans i2
  obtain ⟨kU, u1, u2⟩ := al.2.2 _ _ e3
  have hB : Blank ST x D P.U := ⟨hD, ⟨knV, fun q hq => by rw [hq] at obV; cases obV⟩, by rw [al.findClass]; exact e2, kU, u1, by rw [u2]; exact i3, by rw [u2]; exact e5 i3⟩
  have F1 : Found ST "value" "[B" fV P.U := ⟨SBG.found_only al ⟨cfV, kV, iV, gV⟩, stV⟩
  have F2 : Found ST "coder" "B" fC P.U := ⟨SBG.found_only al ⟨cfC, kC, iC, gC⟩, stC⟩
  have hA : Ch b A P.U := ⟨⟨K.1, State.isArrayOf_alike al K.2.1, K.2.2, by omega⟩, hty⟩
  have hS : StaticIs P.U ST "COMPACT_STRINGS" "Z" (.int z) := by
    obtain ⟨cfS, iS, kS, fS, st, cS, t1, t2, t3, t4, t5, t6, t7⟩ := S
    exact StaticIs.there (s := { Z with heap := P.U.heap }) ⟨cfS, iS, kS, fS, st, cS, t1, t2, t3, t4, t5, (fun q => by rw [q] at t6; cases t6), t7⟩ al rfl
  obtain ⟨v, B, X', ⟨⟨hv, E', V', q1, q2, q3, q4, q5, q6, q7, q8, q9, q10, q11⟩, hl, hc, hs⟩, st⟩ := New1.pays x D fV fC b A z (tab_of (moved hZ hw)) hfr hlo m meth c P g ig mk _ X hg hsize hdg hW hn ⟨r1, r2, rfl, hB, F1, F2, hA, hS, hz, l0, l2, hp⟩
  have al' : Z.vm.Alike B.U.vm := hZ.alike.trans X'.warmed.alike
  have hsz : E'.slots.size = D.slots.size := by
    obtain ⟨-, -, -, kB, w1, w2, w3⟩ := q1
    obtain ⟨kB', y1, y2⟩ := al'.2.2 _ _ e3
    rw [q2.2.1] at w1
    cases w1.symm.trans y1
    rw [w3, e5 i3, y2]
  refine ⟨v, B, X', ⟨_, ⟨hv, ?_, ⟨by omega, fun y cy hy hn' => q10 y cy (by simpa using hn') hy, fun y cy hy => ?_⟩, q11, ⟨E', _, q1.1, by rw [q2.2.1]; exact e2, by rw [q2.2.1]; exact e3, by rw [q2.1]; exact obV, fun _ => by rw [hsz]; exact e5 i3⟩,
    ⟨E', cfV, kV, iV, fV, q1.1, gV, stV, by rw [q2.1]; exact knV, by rw [q2.1]; exact obV, by rw [q2.2.1]; exact asV, q3⟩, ⟨E', cfC, kC, iC, fC, q1.1, gC, stC, by rw [q2.1]; exact knV, by rw [q2.1]; exact obV, by rw [q2.2.1]; exact asC, q4⟩,
    ⟨V', ⟨q5.1, State.isArrayOf_alike al'.symm q5.2.1, q5.2.2.1⟩, q6, by rw [← al'.findClass]; exact q7, q8, fun j hj => by have := q9 j hj; rwa [Nat.zero_add] at this⟩, fun O n d w F n1 n2 => ?_⟩, hl, hc, hs⟩, st⟩
  · intro y hy
    simp only [List.mem_cons, List.not_mem_nil, or_false] at hy
    rcases hy with rfl | rfl <;> rfl
  · by_cases q : y = x
    · subst q
      cases hD.symm.trans hy
      exact ⟨E', q1.1, q2.2.1, q2.1, hsz⟩
    · exact ⟨cy, q10 y cy q hy, rfl, rfl, rfl⟩
  · obtain ⟨D3, cf, k, i, f, g1, g2, g3, g4, g5, g6, g7⟩ := F
    cases hD.symm.trans g1
    simp only [RoadKit.slotOf, g2, gV, gC, Option.map_some, Option.getD_some] at n1 n2
    exact ⟨E', cf, k, i, f, q1.1, g2, g3, by rw [q2.1]; exact g4, by rw [q2.1]; exact g5, by rw [q2.2.1]; exact g6, by rw [q2.2.2 f.slot (by simp [n1, n2])]; exact g7⟩
end StrChars.Road
namespace StrChars.Road
open Jvm Sem ClassFile Op Lib Jvm.Stand Jvm.Free Jvm.Free.XT
/-- WHAT COMES BACK, the byte[] as a list of values -/
def QA (Z : State) (x : Addr) (zn : Int32) (cs : List Int32) (h : Heap) (v : Option Value) (h' : Heap) (L : List Loc) : Prop := v = none ∧ (∀ y ∈ L, y.base = x) ∧ RoadKit.Keep h h' [x] ∧ h'.size = h.size + 1 ∧ RoadKit.Exa Z h' x ST ∧ RoadKit.Fld Z h' x ST "value" "[B" (.ref h.size) ∧ RoadKit.Fld Z h' x ST "coder" "B" (.int 0) ∧
  (∃ kb, Z.vm.findClass "[B" = some kb ∧ RoadKit.Arv Z h' h.size kb .byte zn (cs.map fun c => .int (lo8 c)) (.int 0)) ∧
  ∀ (O n d : String) (w : Value), RoadKit.Fld Z h x O n d w → RoadKit.slotOf Z O n d ≠ RoadKit.slotOf Z ST "value" "[B" → RoadKit.slotOf Z O n d ≠ RoadKit.slotOf Z ST "coder" "B" → RoadKit.Fld Z h' x O n d w
/-- **new String(chars) AT A CALL, THE ARRAYS AS LISTS**: the char[] at b holds cs, not empty, no char above 255 -/
theorem backArv {p : Program} {l : Launch} {e : Env} {R : Room} {s : State} {args : Array Value} {below : List Frame} {len W : Nat} {Z : State} {a0 : Array Value} {h : Heap} (hZ : Z.Warmed39 s.vm) (hw : ∀ d ∈ words, d.before a0 Z = true) {kI : Nat} (wi : (Jvm.Cond.instantiable ST kI).before a0 Z = true)
    {x b : Addr} {k : ClassId} {zn z : Int32} {cs : List Int32} {dv v0 c0 : Value} (E : RoadKit.Exa Z h x ST) (V : RoadKit.Fld Z h x ST "value" "[B" v0) (C : RoadKit.Fld Z h x ST "coder" "B" c0) (K : RoadKit.Arv Z h b k .char zn (cs.map Value.int) dv) (S : RoadKit.Sta Z h ST "COMPACT_STRINGS" "Z" (.int z)) (hz : ¬ z = 0)
    (hlen : zn.toNatClampNeg = cs.length) (h0 : 0 < cs.length) (hbig : cs.length ≤ 536870912) (hall : ∀ c ∈ cs, ¬ 255 < c) (hfr : 4 ≤ R.frames) (hlo : W + 65 ≤ R.locals) :
    Back l R p e below s args New1.yN len W (fun P a => a = #[.ref x, .ref b] ∧ P.U.heap = h ∧ P.cells + 1 ≤ R.cells ∧ P.slots + cs.length ≤ R.slots)
      (fun P _ v B => ∃ L, QA Z x zn cs h v B.U.heap L ∧ B.locs = P.locs ++ L ∧ B.cells = P.cells + 1 ∧ B.slots = P.slots + cs.length) := by
  obtain ⟨A, K1, K2, K3, K4, K5, K6⟩ := K
  have e : A.slots.size = cs.length := K3.trans hlen
  have hat : ∀ (i : Nat) (hi : i < cs.length), A.slots[i]? = some (.int cs[i]) := fun i hi => by rw [K5 i (by omega)]; simp [List.getD_eq_getElem?_getD, hi]
  have hcv : ∀ (i : Nat) (hi : i < cs.length), cv A i = cs[i] := fun i hi => by unfold cv; rw [hat i hi]
  have hty : Typed .char A := fun i v hv => by
    have hi : i < A.slots.size := (Array.getElem?_eq_some_iff.mp hv).1
    have q := K5 i hi
    rw [hv] at q
    rw [Option.some.inj q]
    exact K6 i hi
  refine Back.mono (back hZ hw wi E V C K1 hty S hz (by omega) (by omega) (fun i hi => by rw [hcv i (by omega)]; exact hall _ (List.getElem_mem _)) hfr hlo) (fun P a hp => ⟨hp.1, hp.2.1, hp.2.2.1, by rw [e]; exact hp.2.2.2⟩) (fun P a v B hp hq => ?_)
  obtain ⟨L, ⟨q1, q2, q3, q4, q5, q6, q7, ⟨V', v1, v2, v3, v4, v5⟩, q9⟩, hl, hc, hs⟩ := hq
  refine ⟨L, ⟨q1, q2, q3, q4, q5, q6, q7, ⟨V'.cls, v3, V', v1, rfl, by rw [v4, e, hlen], K4, fun i hi => ?_, fun i hi => ?_⟩, q9⟩, hl, hc, by rw [hs, e]⟩
  · have hi' : i < cs.length := by omega
    rw [v5 i (by omega), hcv i hi']; simp [List.getD_eq_getElem?_getD, hi']
  · have hi' : i < cs.length := by omega
    simp only [List.getD_eq_getElem?_getD, List.getElem?_map, List.getElem?_eq_getElem hi', Option.map_some, Option.getD_some]
    exact fits_lo8 _
end StrChars.Road
namespace StrChars.Road
open Jvm Sem ClassFile Op Lib Jvm.Stand Jvm.Free Jvm.Free.XT
/-- WHAT COMES BACK, in the writer's own shape -/
def QV (Z : State) (x : Addr) (N : Int32) (bs : List Int32) (h : Heap) (n0 : Nat) (v : Option Value) (h' : Heap) (L : List Loc) : Prop := v = none ∧ RoadKit.Fr n0 L ∧ RoadKit.Keep h h' [x] ∧ RoadKit.Exa Z h' x ST ∧ RoadKit.Fld Z h' x ST "coder" "B" (.int 0) ∧
  ∃ (t : Addr) (kb : ClassId), n0 ≤ t ∧ h.size ≤ t ∧ ¬ t = x ∧ RoadKit.Fld Z h' x ST "value" "[B" (.ref t) ∧ RoadKit.Arv Z h' t kb .byte N (bs.map Value.int) (.int 0)
/-- **new String(chars) AT A CALL, FOR THE WRITER**: a char[] of n known ints, each 0 to 255 -/
theorem backV {p : Program} {l : Launch} {e : Env} {R : Room} {s : State} {args : Array Value} {below : List Frame} {len W : Nat} {Z : State} {a0 : Array Value} {h : Heap} (hZ : Z.Warmed39 s.vm) (hw : ∀ d ∈ words, d.before a0 Z = true) {kI : Nat} (wi : (Jvm.Cond.instantiable ST kI).before a0 Z = true)
    {x b : Addr} {kC : ClassId} {cs bs : List Int32} {d v0 c0 : Value} {z N : Int32} {n n0 : Nat} (hx0 : n0 ≤ x) (hh0 : n0 ≤ h.size) (E : RoadKit.Exa Z h x ST) (V : RoadKit.Fld Z h x ST "value" "[B" v0) (C : RoadKit.Fld Z h x ST "coder" "B" c0) (K : RoadKit.Arv Z h b kC .char N (cs.map Value.int) d) (S : RoadKit.Sta Z h ST "COMPACT_STRINGS" "Z" (.int z)) (hz : ¬ z = 0)
    (hn : cs.length = n) (hN : N = Int32.ofNat n) (l0 : 0 < n) (l2 : n ≤ 4000) (hp : ∀ c ∈ cs, ¬ c < 0 ∧ ¬ (255 : Int32) < c) (hb : bs = cs.map (fun c => c.toInt8.toInt32)) (hfr : 4 ≤ R.frames) (hlo : W + 65 ≤ R.locals) :
    Back l R p e below s args (⟨"java/lang/String", "<init>", "([C)V"⟩ : MethodName) len W (fun P a => a = #[.ref x, .ref b] ∧ P.U.heap = h ∧ P.cells + 1 ≤ R.cells ∧ P.slots + n ≤ R.slots)
      (fun P _ v B => ∃ L, QV Z x N bs h n0 v B.U.heap L ∧ B.locs = P.locs ++ L ∧ B.cells = P.cells + 1 ∧ B.slots = P.slots + n) := by
  subst hn hN hb
  refine Back.mono (backArv hZ hw wi E V C K S hz (n32 (by omega)) l0 (by omega) (fun c hc => (hp c hc).2) hfr hlo) (fun P a hp => hp) (fun P a v B hp hq => ?_)
  obtain ⟨L, ⟨q1, q2, q3, q4, q5, q6, q7, ⟨kb, v1, v2⟩, q9⟩, hl, hc, hs⟩ := hq
  exact ⟨L, ⟨q1, fun y hy => by rw [q2 y hy]; exact hx0, q3, q5, q7, h.size, kb, hh0, Nat.le_refl _, Nat.ne_of_gt E.lt, q6, by rw [List.map_map]; exact v2⟩, hl, hc, hs⟩
end StrChars.Road
namespace StrChars
open Jvm Sem ClassFile Op Lib Jvm.Stand Jvm.Free.XT Jvm.Free.ALB Jvm.Free.JM Jvm.Free
open Jvm.Lib.Cold (StaticIs)
def hi8 (x : Int32) : Int32 := lo8 (x >>> ((8 : Int32) &&& 31))
/-- what StringUTF16.getChar makes of two bytes -/
def pairCh (u v : Int32) : Int32 := (((u &&& 255) <<< ((0 : Int32) &&& 31)) ||| ((v &&& 255) <<< ((8 : Int32) &&& 31))).toUInt32.toUInt16.toUInt32.toInt32
theorem lo8_and (x : Int32) : (lo8 x &&& 255).toBitVec.toNat = x.toBitVec.toNat % 256 := by
  have h : (lo8 x).toBitVec = (x.toBitVec.signExtend 8).signExtend 32 := by rw [lo8, Int8.toBitVec_toInt32, Int32.toBitVec_toInt8]
  rw [Int32.toBitVec_and, BitVec.toNat_and, h]
  have e : ((x.toBitVec.signExtend 8).signExtend 32).toNat % 256 = x.toBitVec.toNat % 256 := by
    rw [BitVec.toNat_signExtend]
    have hlt := x.toBitVec.isLt
    simp only [BitVec.toNat_setWidth, BitVec.toNat_signExtend]
    split <;> split <;> omega
  rw [← e]
  exact Nat.and_two_pow_sub_one_eq_mod _ 8
theorem pair_says {c : Int32} (h0 : ¬ c < 0) (h1 : ¬ 65535 < c) : pairCh (lo8 c) (hi8 c) = c := by
  rw [Int32.lt_iff_toInt_lt] at h0 h1
  have e0 : (0 : Int32).toInt = 0 := rfl
  have e1 : (65535 : Int32).toInt = 65535 := rfl
  have hc : c.toInt = c.toBitVec.toNat := by
    have := c.toBitVec.isLt
    have e : c.toInt = c.toBitVec.toInt := rfl
    rw [e] at h0 h1
    rw [e]
    rw [BitVec.toInt_eq_toNat_cond] at h0 h1 ⊢
    split at h0 <;> split <;> omega
  have hn : c.toBitVec.toNat < 65536 := by omega
  have a1 := lo8_and c
  have a2 : (hi8 c &&& 255).toBitVec.toNat = c.toBitVec.toNat / 256 := by
    rw [hi8, lo8_and]
    have e : ((8 : Int32) &&& 31) = 8 := by decide
    rw [e, Int32.toBitVec_shiftRight]
    have e2 : ((8 : Int32).toBitVec.smod 32) = 8#32 := by decide
    rw [e2, BitVec.sshiftRight_eq', BitVec.toNat_sshiftRight_of_msb_false (by rw [BitVec.msb_eq_false_iff_two_mul_lt]; omega)]
    show c.toBitVec.toNat >>> 8 % 256 = _
    rw [Nat.shiftRight_eq_div_pow]
    omega
  unfold pairCh
  apply Int32.toBitVec_inj.mp
  apply BitVec.eq_of_toNat_eq
  have f0 : ((0 : Int32) &&& 31) = 0 := by decide
  have f8 : ((8 : Int32) &&& 31) = 8 := by decide
  rw [f0, f8]
  have g : (((lo8 c &&& 255) <<< (0 : Int32)) ||| ((hi8 c &&& 255) <<< (8 : Int32))).toBitVec.toNat = c.toBitVec.toNat := by
    rw [Int32.toBitVec_or, Int32.toBitVec_shiftLeft, Int32.toBitVec_shiftLeft]
    have s0 : ((0 : Int32).toBitVec.smod 32) = 0#32 := by decide
    have s8 : ((8 : Int32).toBitVec.smod 32) = 8#32 := by decide
    rw [s0, s8, BitVec.toNat_or]
    simp only [BitVec.shiftLeft_eq', BitVec.toNat_shiftLeft, a1, a2]
    show (c.toBitVec.toNat % 256) <<< 0 % 2 ^ 32 ||| (c.toBitVec.toNat / 256) <<< 8 % 2 ^ 32 = _
    rw [Nat.shiftLeft_zero, Nat.mod_eq_of_lt (show c.toBitVec.toNat % 256 < 2 ^ 32 by omega), Nat.mod_eq_of_lt (show (c.toBitVec.toNat / 256) <<< 8 < 2 ^ 32 by rw [Nat.shiftLeft_eq]; omega), Nat.or_comm, ← Nat.shiftLeft_add_eq_or_of_lt (by omega), Nat.shiftLeft_eq]
    omega
  show BitVec.toNat (((((lo8 c &&& 255) <<< (0 : Int32)) ||| ((hi8 c &&& 255) <<< (8 : Int32))).toBitVec.setWidth 16).setWidth 32) = _
  rw [BitVec.toNat_setWidth, BitVec.toNat_setWidth, g]
  omega
end StrChars
namespace StrChars
open Jvm Sem ClassFile Op Lib Jvm.Stand Jvm.Free.XT Jvm.Free.ALB Jvm.Free.JM Jvm.Free
open Jvm.Lib.Cold (StaticIs)
/-- the array's cell V codes the n chars f 0 .. f (n - 1) by the coder cd, as the JDK does: coder 1 just where some char is above 255 -/
def Cod (cd : Int32) (n : Nat) (f : Nat → Int32) (V : Cell) : Prop := (cd = 0 ∧ V.slots.size = n ∧ ∀ j, j < n → V.slots[j]? = some (.int (lo8 (f j))) ∧ ¬ 255 < f j) ∨ (cd = 1 ∧ V.slots.size = 2 * n ∧ (∀ j, j < n → V.slots[2 * j]? = some (.int (lo8 (f j))) ∧ V.slots[2 * j + 1]? = some (.int (hi8 (f j)))) ∧ ∃ j, j < n ∧ 255 < f j)
/-- **x is a String of the n chars f 0 .. f (n - 1)**, Latin-1 or UTF-16; its array at t has the cell V -/
def Txt (x t : Addr) (V : Cell) (cd : Int32) (n : Nat) (f : Nat → Int32) (U : State) : Prop := Exact "java/lang/String" x U ∧ Has x "java/lang/String" "value" "[B" (.ref t) U ∧ Has x "java/lang/String" "coder" "B" (.int cd) U ∧ XT.Arr .byte t V U ∧ Cod cd n f V ∧ ∀ j, j < n → ¬ f j < 0 ∧ ¬ 65535 < f j
theorem Txt.mv {x t : Addr} {V : Cell} {cd : Int32} {n : Nat} {f : Nat → Int32} {U U' : State} (h : Txt x t V cd n f U) (hal : U.vm.Alike U'.vm) (hh : U'.heap = U.heap) : Txt x t V cd n f U' := ⟨h.1.mv hal hh, h.2.1.mv hal hh, h.2.2.1.mv hal hh, h.2.2.2.1.mv hal hh, h.2.2.2.2⟩
end StrChars
namespace StrChars.Road
open Jvm Sem ClassFile Op Lib Jvm.Stand Jvm.Free Jvm.Free.XT
open Jvm.Lib.Cold (StaticIs)
theorem consq {a : Array Value} {s : State} {c : Jvm.Cond} {L : List Jvm.Cond} (h0 : c.before a s = true) (h : ∀ w ∈ L, w.before a s = true) : ∀ w ∈ c :: L, w.before a s = true := fun w hw => (List.mem_cons.mp hw).elim (fun e => e ▸ h0) (h w)
/-- the bytes of the chars cs, low before high -/
def wideBytes : List Int32 → List Value
  | [] => []
  | c :: cs => .int (lo8 c) :: .int (hi8 c) :: wideBytes cs
theorem wide_lo (d : Value) : ∀ (cs : List Int32) (j : Nat), j < cs.length → (wideBytes cs).getD (2 * j) d = .int (lo8 (cs.getD j 0))
  | [], j, h => absurd h (Nat.not_lt_zero j)
  | c :: cs, 0, _ => rfl
  | c :: cs, j + 1, h => by
    have q := wide_lo d cs j (by simpa using h)
    rw [show 2 * (j + 1) = 2 * j + 1 + 1 from by omega]
    simpa [wideBytes] using q
theorem wide_hi (d : Value) : ∀ (cs : List Int32) (j : Nat), j < cs.length → (wideBytes cs).getD (2 * j + 1) d = .int (hi8 (cs.getD j 0))
  | [], j, h => absurd h (Nat.not_lt_zero j)
  | c :: cs, 0, _ => rfl
  | c :: cs, j + 1, h => by
    have q := wide_hi d cs j (by simpa using h)
    rw [show 2 * (j + 1) + 1 = 2 * j + 1 + 1 + 1 from by omega]
    simpa [wideBytes] using q
theorem low_at (d : Value) (cs : List Int32) (j : Nat) (h : j < cs.length) : (cs.map fun c => Value.int (lo8 c)).getD j d = .int (lo8 (cs.getD j 0)) := by
  simp [List.getD_eq_getElem?_getD, h]
/-- an array of N2 bytes vs codes the chars cs by the coder cd -/
def CodA (cs : List Int32) (cd N2 : Int32) (vs : List Value) : Prop := (cd = 0 ∧ N2 = Int32.ofNat cs.length ∧ vs = (cs.map fun c => Value.int (lo8 c)) ∧ ∀ c ∈ cs, ¬ 255 < c) ∨ (cd = 1 ∧ N2 = Int32.ofNat (2 * cs.length) ∧ vs = wideBytes cs ∧ ∃ c ∈ cs, 255 < c)
theorem CodA.cod {cs : List Int32} {cd N2 : Int32} {vs : List Value} {V : Cell} (h : CodA cs cd N2 vs) (hn : 2 * cs.length < 2 ^ 31) (hs : V.slots.size = N2.toNatClampNeg) (hv : RoadKit.Has V vs (.int 0)) : Cod cd cs.length (fun j => cs.getD j 0) V := by
  rcases h with ⟨rfl, rfl, rfl, h⟩ | ⟨rfl, rfl, rfl, c, hc, hw⟩
  · rw [n32 (by omega)] at hs
    exact Or.inl ⟨rfl, hs, fun j hj => ⟨by rw [hv j (by omega), low_at _ _ _ hj], by
      have e : cs.getD j 0 = cs[j] := by simp [List.getD_eq_getElem?_getD, hj]
      show ¬ 255 < cs.getD j 0
      rw [e]; exact h _ (List.getElem_mem _)⟩⟩
  · rw [n32 (by omega)] at hs
    obtain ⟨j, hj, rfl⟩ := List.getElem_of_mem hc
    exact Or.inr ⟨rfl, hs, fun j hj => ⟨by rw [hv _ (by omega), wide_lo _ _ _ hj], by rw [hv _ (by omega), wide_hi _ _ _ hj]⟩, j, hj, by
      have e : cs.getD j 0 = cs[j] := by simp [List.getD_eq_getElem?_getD, hj]
      show 255 < cs.getD j 0
      rw [e]; exact hw⟩
/-- an object of exactly java/lang/String, its two fields found: as the laws ask it -/
theorem strObj {Z U : State} {a0 : Array Value} {kI : Nat} (wi : (Jvm.Cond.instantiable ST kI).before a0 Z = true) (al : Z.vm.Alike U.vm) {x : Addr} {v0 c0 : Value} (E : RoadKit.Exa Z U.heap x ST) (V : RoadKit.Fld Z U.heap x ST "value" "[B" v0) (C : RoadKit.Fld Z U.heap x ST "coder" "B" c0) :
    ∃ (D : Cell) (fV fC : Field), Blank ST x D U ∧ Found ST "value" "[B" fV U ∧ Found ST "coder" "B" fC U ∧ D.slots[fV.slot]? = some v0 ∧ D.slots[fC.slot]? = some c0 ∧ RoadKit.slotOf Z ST "value" "[B" = fV.slot ∧ RoadKit.slotOf Z ST "coder" "B" = fC.slot := by
  obtain ⟨D, cfV, kV, iV, fV, hD, gV, stV, knV, obV, asV, slV⟩ := V
  obtain ⟨D', cfC, kC, iC, fC, hD', gC, stC, -, -, asC, slC⟩ := C
  cases hD.symm.trans hD'
  obtain ⟨D2, kD, e1, e2, e3, e4, e5⟩ := E
  cases hD.symm.trans e1
  obtain ⟨c2, k2, i1, i2, i3, -⟩ := Cond.instantiable_spec wi
  cases e2.symm.trans i1
  cases e3.symm.trans i2
  obtain ⟨kU, u1, u2⟩ := al.2.2 _ _ e3
  exact ⟨D, fV, fC, ⟨hD, ⟨knV, fun q hq => by rw [hq] at obV; cases obV⟩, by rw [al.findClass]; exact e2, kU, u1, by rw [u2]; exact i3, by rw [u2]; exact e5 i3⟩, ⟨SBG.found_only al ⟨cfV, kV, iV, gV⟩, stV⟩, ⟨SBG.found_only al ⟨cfC, kC, iC, gC⟩, stC⟩, slV, slC, by simp [RoadKit.slotOf, gV], by simp [RoadKit.slotOf, gC]⟩
theorem sta_is {Z U : State} (al : Z.vm.Alike U.vm) {C n d : String} {v : Value} (S : RoadKit.Sta Z U.heap C n d v) : StaticIs U C n d v := by
  obtain ⟨cfS, iS, kS, fS, st, cS, t1, t2, t3, t4, t5, t6, t7⟩ := S
  exact StaticIs.there (s := { Z with heap := U.heap }) ⟨cfS, iS, kS, fS, st, cS, t1, t2, t3, t4, t5, (fun q => by rw [q] at t6; cases t6), t7⟩ al rfl
end StrChars.Road
namespace StrChars
open Jvm Sem ClassFile Op Lib Jvm.Stand Jvm.Free.XT Jvm.Free.ALB Jvm.Free.JM Jvm.Free
open Jvm.Lib.Cold (StaticIs)
/-- what place i of a byte[]'s cell holds -/
def yv (A : Cell) (i : Nat) : Int32 := match A.slots[i]? with | some (.int x) => x | _ => 0
theorem yv_get {a : Addr} {A : Cell} {U : State} (h : XT.Arr .byte a A U) (ht : Typed .byte A) {i : Nat} (hi : i < A.slots.size) : A.slots[i]? = some (.int (yv A i)) := by
  have e := Array.getElem?_eq_getElem hi
  have f := ht i _ e
  unfold yv; rw [e]
  generalize A.slots[i] = v at f
  cases v <;> simp [fits] at f ⊢
/-- the two arrays are equal, place for place -/
def EqC (A B : Cell) : Prop := A.slots.size = B.slots.size ∧ ∀ i, i < A.slots.size → yv A i = yv B i
/-- a boolean that says whether p -/
def Says01 (q : Prop) (r : Option Value) (s u : State) : Prop := ∃ v : Int32, r = some (.int v) ∧ u.heap = s.heap ∧ ((v = 1 ∧ q) ∨ (v = 0 ∧ ¬ q))
theorem Says01.mv {q : Prop} : ∀ r (U U' V V' : State), U'.heap = U.heap → V.vm.Alike V'.vm → V'.heap = V.heap → Says01 q r U V → Says01 q r U' V' :=
  fun r U U' V V' h1 _ h2 ⟨v, a, b, c⟩ => ⟨v, a, by rw [h1, h2]; exact b, c⟩
namespace LEq
def yN : MethodName := ⟨"java/lang/StringLatin1", "equals", "([B[B)Z"⟩
abbrev yB : ByteArray := jdk_43_method_13_code
theorem d0 : decode yB 0 = .ok (.aload_n 0, 1) := by decide +kernel
theorem d1 : decode yB 1 = .ok (.arraylength, 1) := by decide +kernel
theorem d2 : decode yB 2 = .ok (.aload_n 1, 1) := by decide +kernel
theorem d3 : decode yB 3 = .ok (.arraylength, 1) := by decide +kernel
theorem d4 : decode yB 4 = .ok (.if_icmp (.ne) 30, 3) := by decide +kernel
theorem d7 : decode yB 7 = .ok (.iconst 0, 1) := by decide +kernel
theorem d8 : decode yB 8 = .ok (.istore_n 2, 1) := by decide +kernel
theorem d9 : decode yB 9 = .ok (.iload_n 2, 1) := by decide +kernel
theorem d10 : decode yB 10 = .ok (.aload_n 0, 1) := by decide +kernel
theorem d11 : decode yB 11 = .ok (.arraylength, 1) := by decide +kernel
theorem d12 : decode yB 12 = .ok (.if_icmp (.ge) 20, 3) := by decide +kernel
theorem d15 : decode yB 15 = .ok (.aload_n 0, 1) := by decide +kernel
theorem d16 : decode yB 16 = .ok (.iload_n 2, 1) := by decide +kernel
theorem d17 : decode yB 17 = .ok (.baload, 1) := by decide +kernel
theorem d18 : decode yB 18 = .ok (.aload_n 1, 1) := by decide +kernel
theorem d19 : decode yB 19 = .ok (.iload_n 2, 1) := by decide +kernel
theorem d20 : decode yB 20 = .ok (.baload, 1) := by decide +kernel
theorem d21 : decode yB 21 = .ok (.if_icmp (.eq) 5, 3) := by decide +kernel
theorem d24 : decode yB 24 = .ok (.iconst 0, 1) := by decide +kernel
theorem d25 : decode yB 25 = .ok (.ireturn, 1) := by decide +kernel
theorem d26 : decode yB 26 = .ok (.iinc 2 1, 3) := by decide +kernel
theorem d29 : decode yB 29 = .ok (.goto (-20), 3) := by decide +kernel
theorem d32 : decode yB 32 = .ok (.iconst 1, 1) := by decide +kernel
theorem d33 : decode yB 33 = .ok (.ireturn, 1) := by decide +kernel
theorem d34 : decode yB 34 = .ok (.iconst 0, 1) := by decide +kernel
theorem d35 : decode yB 35 = .ok (.ireturn, 1) := by decide +kernel
def site : List Cond := []
def tab : Cond := tabOf yN yB 3 (some .boolean) site
def P (a : Addr) (A : Cell) (b : Addr) (B : Cell) (args : Array Value) (s : State) : Prop := args = #[.ref a, .ref b] ∧ XT.Arr .byte a A s ∧ Typed .byte A ∧ XT.Arr .byte b B s ∧ Typed .byte B
/-- whether two byte[] are equal, place for place -/
theorem law (l : Launch) (a : Addr) (A : Cell) (b : Addr) (B : Cell) : Law l yN 2 2 0 0 yB 3 (some .boolean) site (P a A b B) (Says01 (EqC A B)) [] 0 0 := by
  refine Law.of_walk (plainFor_of_name (by decide +kernel)) (by decide +kernel) (by decide +kernel) (by decide) (fun _ _ h => by rw [h.1]; rfl) (fun _ U U' hal hh h => ⟨h.1, h.2.1.mv hal hh, h.2.2.1, h.2.2.2.1.mv hal hh, h.2.2.2.2⟩) (fun r U U' V V' h1 hal h2 h => Says01.mv r U U' V V' h1 hal h2 h) ?_
  intro p e s m args below meth c s₁ X0 hexec hbytes hml hret hlk hnm hown hh0 W hP
  obtain ⟨rfl, hA, tA, hB, tB⟩ := hP
  have a31 := hA.2.2.2
  have b31 := hB.2.2.2
  have hA0 := hA.mv X0.warmed.alike hh0
  have hB0 := hB.mv X0.warmed.alike hh0
  have c1 : Steps p.tables e below (s₁.setTop (entryFrame m #[.ref a, .ref b] 3)) (s₁.setTop (mkF m 0 #[.val (.ref a), .val (.ref b), .unset] [])) := entry rfl
  have c2 : Steps p.tables e below (s₁.setTop (entryFrame m #[.ref a, .ref b] 3)) (s₁.setTop (mkF m 4 #[.val (.ref a), .val (.ref b), .unset] [.int (Int32.ofNat B.slots.size), .int (Int32.ofNat A.slots.size)])) := c1.trans (by
    refine XS.aloadN X0.here hexec rfl (hb hbytes d0) rfl rfl ?_
    refine X0.alen hexec hA0 rfl rfl (hb hbytes d1) ?_
    refine XS.aloadN X0.here hexec rfl (hb hbytes d2) rfl rfl ?_
    refine X0.alen hexec hB0 rfl rfl (hb hbytes d3) ?_
    exact Steps.refl _)
  by_cases hs : A.slots.size = B.slots.size
  · have c3 : Steps p.tables e below (s₁.setTop (entryFrame m #[.ref a, .ref b] 3)) (s₁.setTop (mkF m 9 #[.val (.ref a), .val (.ref b), .val (.int 0)] [])) := c2.trans (by
      refine XS.icmpNo X0.here hexec rfl (hb hbytes d4) rfl (ii_ne_f (by rw [hs])) ?_
      refine iconstV X0.here hexec rfl 0 (hb hbytes d7) (by decide) ?_
      refine XS.istoreN X0.here hexec rfl (hb hbytes d8) rfl rfl ?_
      exact Steps.refl _)
    have loop : ∀ (r i : Nat), i + r = A.slots.size → (∀ j, j < i → yv A j = yv B j) → Steps p.tables e below (s₁.setTop (entryFrame m #[.ref a, .ref b] 3)) (s₁.setTop (mkF m 9 #[.val (.ref a), .val (.ref b), .val (.int (Int32.ofNat i))] [])) → ∃ (pc : Nat) (Ls : Array Slot) (v : Int32), (pc = 25 ∨ pc = 33) ∧ ((v = 1 ∧ EqC A B) ∨ (v = 0 ∧ ¬ EqC A B)) ∧ Steps p.tables e below (s₁.setTop (entryFrame m #[.ref a, .ref b] 3)) (s₁.setTop (mkF m pc Ls [.int v])) := by
      intro r
      induction r with
      | zero =>
        intro i hi he cl
        exact ⟨33, _, 1, Or.inr rfl, Or.inl ⟨rfl, hs, fun j hj => he j (by omega)⟩, cl.trans (by
          refine XS.iloadN X0.here hexec rfl (hb hbytes d9) rfl ?_
          refine XS.aloadN X0.here hexec rfl (hb hbytes d10) rfl rfl ?_
          refine X0.alen hexec hA0 rfl rfl (hb hbytes d11) ?_
          refine XS.icmpYes X0.here hexec rfl (pc0 := 12) rfl (hb hbytes d12) rfl (ii_ge_t (nlt32 (by omega) (by omega))) (by decide) rfl ?_
          refine iconstV X0.here hexec rfl 1 (hb hbytes d32) (by decide) ?_
          exact Steps.refl _)⟩
      | succ r ih =>
        intro i hi he cl
        have c4 : Steps p.tables e below (s₁.setTop (entryFrame m #[.ref a, .ref b] 3)) (s₁.setTop (mkF m 21 #[.val (.ref a), .val (.ref b), .val (.int (Int32.ofNat i))] [.int (yv B i), .int (yv A i)])) := cl.trans (by
          refine XS.iloadN X0.here hexec rfl (hb hbytes d9) rfl ?_
          refine XS.aloadN X0.here hexec rfl (hb hbytes d10) rfl rfl ?_
          refine X0.alen hexec hA0 rfl rfl (hb hbytes d11) ?_
          refine XS.icmpNo X0.here hexec rfl (hb hbytes d12) rfl (ii_ge_f (lt32 (by omega) (by omega))) ?_
          refine XS.aloadN X0.here hexec rfl (hb hbytes d15) rfl rfl ?_
          refine XS.iloadN X0.here hexec rfl (hb hbytes d16) rfl ?_
          refine X0.aget hexec hA0 rfl (yv_get hA tA (i := i) (by omega)) rfl rfl (hb hbytes d17) ?_
          refine XS.aloadN X0.here hexec rfl (hb hbytes d18) rfl rfl ?_
          refine XS.iloadN X0.here hexec rfl (hb hbytes d19) rfl ?_
          refine X0.aget hexec hB0 rfl (yv_get hB tB (i := i) (by omega)) rfl rfl (hb hbytes d20) ?_
          exact Steps.refl _)
        by_cases hv : yv A i = yv B i
        · have c5 : Steps p.tables e below (s₁.setTop (entryFrame m #[.ref a, .ref b] 3)) (s₁.setTop (mkF m 9 #[.val (.ref a), .val (.ref b), .val (.int (Int32.ofNat i + 1))] [])) := c4.trans (by
            refine XS.icmpYes X0.here hexec rfl (pc0 := 21) rfl (hb hbytes d21) rfl (ii_eq_t hv) (by decide) rfl ?_
            refine iincV X0.here hexec rfl 1 (hb hbytes d26) (by decide) rfl rfl ?_
            refine XS.goto X0.here hexec rfl (pc0 := 29) rfl (hb hbytes d29) (by decide) rfl ?_
            exact Steps.refl _)
          rw [succ32] at c5
          exact ih (i + 1) (by omega) (fun j hj => by
            by_cases e : j = i
            · rw [e]; exact hv
            · exact he j (by omega)) c5
        · exact ⟨25, _, 0, Or.inl rfl, Or.inr ⟨rfl, fun q => hv (q.2 i (by omega))⟩, c4.trans (by
            refine XS.icmpNo X0.here hexec rfl (hb hbytes d21) rfl (ii_eq_f hv) ?_
            refine iconstV X0.here hexec rfl 0 (hb hbytes d24) (by decide) ?_
            exact Steps.refl _)⟩
    obtain ⟨pc, Ls, v, hpc, hv, cz⟩ := loop A.slots.size 0 (by omega) (fun j hj => absurd hj (Nat.not_lt_zero j)) c3
    have nv : narrow .boolean (.int v) = .int v := by rcases hv with ⟨rfl, -⟩ | ⟨rfl, -⟩ <;> rfl
    rcases hpc with rfl | rfl
    · exact ⟨s₁, some (.int v), _, _, _, X0, rfl, rfl, rfl, (fun h => by cases h), ⟨v, rfl, hh0, hv⟩, fun fs hl => cz.trans (X0.ireturnOut hexec hret nv (Or.inr (Or.inl rfl)) (hb hbytes d25) hl)⟩
    · exact ⟨s₁, some (.int v), _, _, _, X0, rfl, rfl, rfl, (fun h => by cases h), ⟨v, rfl, hh0, hv⟩, fun fs hl => cz.trans (X0.ireturnOut hexec hret nv (Or.inr (Or.inl rfl)) (hb hbytes d33) hl)⟩
  · have c3 : Steps p.tables e below (s₁.setTop (entryFrame m #[.ref a, .ref b] 3)) (s₁.setTop (mkF m 35 #[.val (.ref a), .val (.ref b), .unset] [.int 0])) := c2.trans (by
      refine XS.icmpYes X0.here hexec rfl (pc0 := 4) rfl (hb hbytes d4) rfl (ii_ne_t (ne32 a31 b31 hs)) (by decide) rfl ?_
      refine iconstV X0.here hexec rfl 0 (hb hbytes d34) (by decide) ?_
      exact Steps.refl _)
    exact ⟨s₁, some (.int 0), _, _, _, X0, rfl, rfl, rfl, (fun h => by cases h), ⟨0, rfl, hh0, Or.inr ⟨rfl, fun q => hs q.1⟩⟩, fun fs hl => c3.trans (X0.ireturnOut hexec hret rfl (Or.inr (Or.inl rfl)) (hb hbytes d35) hl)⟩
end LEq
theorem Cod.ty {cd : Int32} {n : Nat} {f : Nat → Int32} {V : Cell} (h : Cod cd n f V) : Typed .byte V := fun i v hv => by
  have hi : i < V.slots.size := (Array.getElem?_eq_some_iff.mp hv).1
  rcases h with ⟨-, k1, k2⟩ | ⟨-, k1, k2, -⟩
  · rw [(k2 i (by omega)).1] at hv; cases hv; exact fits_lo8 _
  · rcases Nat.mod_two_eq_zero_or_one i with e | e
    · obtain ⟨j, rfl⟩ : ∃ j, i = 2 * j := ⟨i / 2, by omega⟩
      rw [(k2 j (by omega)).1] at hv; cases hv; exact fits_lo8 _
    · obtain ⟨j, rfl⟩ : ∃ j, i = 2 * j + 1 := ⟨i / 2, by omega⟩
      rw [(k2 j (by omega)).2] at hv; cases hv; exact fits_lo8 _
/-- the same text -/
def SameT (n : Nat) (f : Nat → Int32) (k : Nat) (g : Nat → Int32) : Prop := n = k ∧ ∀ j, j < n → f j = g j
theorem lo8_inj {x y : Int32} (h0 : ¬ x < 0) (h1 : ¬ 255 < x) (k0 : ¬ y < 0) (k1 : ¬ 255 < y) (h : lo8 x = lo8 y) : x = y := by
  rw [← lo8_mask h0 h1, ← lo8_mask k0 k1, h]
/-- arrays coded by one coder are equal just where the texts are -/
theorem Cod.eqv {cd : Int32} {n k : Nat} {f g : Nat → Int32} {V V' : Cell} (h : Cod cd n f V) (h' : Cod cd k g V') (hf : ∀ j, j < n → ¬ f j < 0 ∧ ¬ 65535 < f j) (hg : ∀ j, j < k → ¬ g j < 0 ∧ ¬ 65535 < g j) : EqC V V' ↔ SameT n f k g := by
  have yvv : ∀ {W : Cell} {i : Nat} {x : Int32}, W.slots[i]? = some (.int x) → yv W i = x := fun q => by unfold yv; rw [q]
  rcases h with ⟨rfl, k1, k2⟩ | ⟨rfl, k1, k2, -⟩
  · rcases h' with ⟨-, m1, m2⟩ | ⟨e, -⟩
    · constructor
      · rintro ⟨e1, e2⟩
        refine ⟨by omega, fun j hj => ?_⟩
        have q := e2 j (by omega)
        rw [yvv (k2 j hj).1, yvv (m2 j (by omega)).1] at q
        exact lo8_inj (hf j hj).1 (k2 j hj).2 (hg j (by omega)).1 (m2 j (by omega)).2 q
      · rintro ⟨rfl, e2⟩
        refine ⟨by omega, fun j hj => ?_⟩
        rw [yvv (k2 j (by omega)).1, yvv (m2 j (by omega)).1, e2 j (by omega)]
    · exact absurd e (by decide)
  · rcases h' with ⟨e, -⟩ | ⟨-, m1, m2, -⟩
    · exact absurd e (by decide)
    · constructor
      · rintro ⟨e1, e2⟩
        refine ⟨by omega, fun j hj => ?_⟩
        have q1 := e2 (2 * j) (by omega)
        have q2 := e2 (2 * j + 1) (by omega)
        rw [yvv (k2 j hj).1, yvv (m2 j (by omega)).1] at q1
        rw [yvv (k2 j hj).2, yvv (m2 j (by omega)).2] at q2
        rw [← pair_says (hf j hj).1 (hf j hj).2, ← pair_says (hg j (by omega)).1 (hg j (by omega)).2, q1, q2]
      · rintro ⟨rfl, e2⟩
        refine ⟨by omega, fun i hi => ?_⟩
        rcases Nat.mod_two_eq_zero_or_one i with e | e
        · obtain ⟨j, rfl⟩ : ∃ j, i = 2 * j := ⟨i / 2, by omega⟩
          rw [yvv (k2 j (by omega)).1, yvv (m2 j (by omega)).1, e2 j (by omega)]
        · obtain ⟨j, rfl⟩ : ∃ j, i = 2 * j + 1 := ⟨i / 2, by omega⟩
          rw [yvv (k2 j (by omega)).2, yvv (m2 j (by omega)).2, e2 j (by omega)]
/-- two codings differ: so do the texts -/
theorem Cod.dif {cd cd' : Int32} {n k : Nat} {f g : Nat → Int32} {V V' : Cell} (h : Cod cd n f V) (h' : Cod cd' k g V') (hne : ¬ cd = cd') : ¬ SameT n f k g := by
  rintro ⟨rfl, e⟩
  rcases h with ⟨rfl, -, k2⟩ | ⟨rfl, -, -, j, hj, hw⟩
  · rcases h' with ⟨rfl, -⟩ | ⟨-, -, -, j, hj, hw⟩
    · exact hne rfl
    · exact (k2 j hj).2 (by rw [e j hj]; exact hw)
  · rcases h' with ⟨-, -, m2⟩ | ⟨rfl, -⟩
    · exact (m2 j hj).2 (by rw [← e j hj]; exact hw)
    · exact hne rfl
/-- an object of exactly C is an instance of C -/
theorem cinst {p : Program} {l : Launch} {e : Env} {R : Room} {s : State} {m : MethodId} {args : Array Value} {below : List Frame} {meth : Method} {c : Code} {T : State} {locs : List Loc} {cells slots : Nat} (X : Stand p l e R s m args below meth c T locs cells slots) (hexec : p.tables.exec = Jvm.exec) {own C : String} {index : Nat} (hown : s.vm.findClass own = some m.cls) (hlink : (Cond.classLink own index C).before args s = true) {a : Addr} (hE : Exact C a T)
    {g : JFrame} (hg : g.method = m) {rest : List Value} (hstack : g.stack = .ref a :: rest) (hdg : decode c.code g.pc = .ok (.instanceof index, 3)) :
    ∃ T', Stand p l e R s m args below meth c T' locs cells slots ∧ T'.heap = T.heap ∧ ∀ target, Steps p.tables e below (T'.setTop { g with pc := g.pc + 3, stack := .int 1 :: rest }) target → Steps p.tables e below (T.setTop g) target := by
  obtain ⟨cB, h1, D, h2, h3, h4⟩ := hE
  have h1' : s.vm.findClass C = some cB := by rw [← X.warmed.alike.findClass]; exact h1
  obtain ⟨vm', X', st⟩ := X.instanceofYes hexec hown hlink h2 h4 h1' (by rw [h3]; exact Jvm.Free.SB.assignable_self _ _) hg hstack hdg
  exact ⟨_, X', rfl, st⟩
theorem cself {p : Program} {l : Launch} {e : Env} {R : Room} {s : State} {m : MethodId} {args : Array Value} {below : List Frame} {meth : Method} {c : Code} {T : State} {locs : List Loc} {cells slots : Nat} (X : Stand p l e R s m args below meth c T locs cells slots) (hexec : p.tables.exec = Jvm.exec) {own C : String} {index : Nat} (hown : s.vm.findClass own = some m.cls) (hlink : (Cond.classLink own index C).before args s = true) {a : Addr} (hE : Exact C a T)
    {g : JFrame} (hg : g.method = m) {rest : List Value} (hstack : g.stack = .ref a :: rest) (hdg : decode c.code g.pc = .ok (.checkcast index, 3)) :
    ∃ T', Stand p l e R s m args below meth c T' locs cells slots ∧ T'.heap = T.heap ∧ ∀ target, Steps p.tables e below (T'.setTop { g with pc := g.pc + 3, stack := .ref a :: rest }) target → Steps p.tables e below (T.setTop g) target := by
  obtain ⟨cB, h1, D, h2, h3, h4⟩ := hE
  have h1' : s.vm.findClass C = some cB := by rw [← X.warmed.alike.findClass]; exact h1
  obtain ⟨vm', X', st⟩ := X.checkcastYes hexec hown hlink h2 h4 h1' (by rw [h3]; exact Jvm.Free.SB.assignable_self _ _) hg hstack hdg
  exact ⟨_, X', rfl, fun t h => st t (by rw [← hstack] at h; exact h)⟩
namespace SEq
def yN : MethodName := ⟨"java/lang/String", "equals", "(Ljava/lang/Object;)Z"⟩
abbrev yB : ByteArray := jdk_42_method_66_code
theorem d0 : decode yB 0 = .ok (.aload_n 0, 1) := by decide +kernel
theorem d1 : decode yB 1 = .ok (.aload_n 1, 1) := by decide +kernel
theorem d2 : decode yB 2 = .ok (.if_acmp (.ne) 5, 3) := by decide +kernel
theorem d5 : decode yB 5 = .ok (.iconst 1, 1) := by decide +kernel
theorem d6 : decode yB 6 = .ok (.ireturn, 1) := by decide +kernel
theorem d7 : decode yB 7 = .ok (.aload_n 1, 1) := by decide +kernel
theorem d8 : decode yB 8 = .ok (.instanceof 10, 3) := by decide +kernel
theorem d11 : decode yB 11 = .ok (.ifCond (.eq) 43, 3) := by decide +kernel
theorem d14 : decode yB 14 = .ok (.aload_n 1, 1) := by decide +kernel
theorem d15 : decode yB 15 = .ok (.checkcast 10, 3) := by decide +kernel
theorem d18 : decode yB 18 = .ok (.astore_n 2, 1) := by decide +kernel
theorem d19 : decode yB 19 = .ok (.getstatic 38, 3) := by decide +kernel
theorem d22 : decode yB 22 = .ok (.ifCond (.eq) 14, 3) := by decide +kernel
theorem d25 : decode yB 25 = .ok (.aload_n 0, 1) := by decide +kernel
theorem d26 : decode yB 26 = .ok (.getfield 15, 3) := by decide +kernel
theorem d29 : decode yB 29 = .ok (.aload_n 2, 1) := by decide +kernel
theorem d30 : decode yB 30 = .ok (.getfield 15, 3) := by decide +kernel
theorem d33 : decode yB 33 = .ok (.if_icmp (.ne) 21, 3) := by decide +kernel
theorem d36 : decode yB 36 = .ok (.aload_n 0, 1) := by decide +kernel
theorem d37 : decode yB 37 = .ok (.getfield 9, 3) := by decide +kernel
theorem d40 : decode yB 40 = .ok (.aload_n 2, 1) := by decide +kernel
theorem d41 : decode yB 41 = .ok (.getfield 9, 3) := by decide +kernel
theorem d44 : decode yB 44 = .ok (.invokestatic 541, 3) := by decide +kernel
theorem d47 : decode yB 47 = .ok (.ifCond (.eq) 7, 3) := by decide +kernel
theorem d50 : decode yB 50 = .ok (.iconst 1, 1) := by decide +kernel
theorem d51 : decode yB 51 = .ok (.goto 4, 3) := by decide +kernel
theorem d54 : decode yB 54 = .ok (.iconst 0, 1) := by decide +kernel
theorem d55 : decode yB 55 = .ok (.ireturn, 1) := by decide +kernel
def site : List Cond := [.classLink "java/lang/String" 10 "java/lang/String", .fieldLink "java/lang/String" 38 "java/lang/String" "COMPACT_STRINGS" "Z", .fieldLink "java/lang/String" 15 "java/lang/String" "coder" "B", .fieldLink "java/lang/String" 9 "java/lang/String" "value" "[B", LEq.tab] ++ staticW "java/lang/String" 541 LEq.yN
def tab : Cond := tabOf yN yB 3 (some .boolean) site
def P (x t : Addr) (V : Cell) (cd : Int32) (n : Nat) (f : Nat → Int32) (y t' : Addr) (V' : Cell) (cd' : Int32) (k : Nat) (g : Nat → Int32) (z : Int32) (args : Array Value) (s : State) : Prop := args = #[.ref x, .ref y] ∧ Txt x t V cd n f s ∧ Txt y t' V' cd' k g s ∧ StaticIs s "java/lang/String" "COMPACT_STRINGS" "Z" (.int z) ∧ ¬ z = 0
/-- equals(Object) of two Strings: whether the texts are the same -/
theorem law (l : Launch) (x t : Addr) (V : Cell) (cd : Int32) (n : Nat) (f : Nat → Int32) (y t' : Addr) (V' : Cell) (cd' : Int32) (k : Nat) (g : Nat → Int32) (z : Int32) : Law l yN 2 1 1 14 yB 3 (some .boolean) site (P x t V cd n f y t' V' cd' k g z) (Says01 (SameT n f k g)) [] 0 0 := by
  refine Law.of_walk (plainFor_of_name (by decide +kernel)) (by decide +kernel) (by decide +kernel) (by decide) (fun _ _ h => by rw [h.1]; rfl) (fun _ U U' hal hh h => ⟨h.1, h.2.1.mv hal hh, h.2.2.1.mv hal hh, h.2.2.2.1.there hal hh, h.2.2.2.2⟩) (fun r U U' V V' h1 hal h2 h => Says01.mv r U U' V V' h1 hal h2 h) ?_
  intro p e s m args below meth c s₁ X0 hexec hbytes hml hret hlk hnm hown hh0 W hP
  obtain ⟨rfl, hx, hy, s1, hz⟩ := hP
  have c1 : Steps p.tables e below (s₁.setTop (entryFrame m #[.ref x, .ref y] 3)) (s₁.setTop (mkF m 2 #[.val (.ref x), .val (.ref y), .unset] [.ref y, .ref x])) := Steps.trans (entry rfl) (by
    show Steps p.tables e below (s₁.setTop (mkF m 0 #[.val (.ref x), .val (.ref y), .unset] [])) _
    refine XS.aloadN X0.here hexec rfl (hb hbytes d0) rfl rfl ?_
    refine XS.aloadN X0.here hexec rfl (hb hbytes d1) rfl rfl ?_
    exact Steps.refl _)
  by_cases hxy : x = y
  · have c2 : Steps p.tables e below (s₁.setTop (entryFrame m #[.ref x, .ref y] 3)) (s₁.setTop (mkF m 6 #[.val (.ref x), .val (.ref y), .unset] [.int 1])) := c1.trans (by
      refine acmpNo X0.here hexec rfl (hb hbytes d2) rfl rfl rfl (by simp [acmp, hxy]) ?_
      refine iconstV X0.here hexec rfl 1 (hb hbytes d5) (by decide) ?_
      exact Steps.refl _)
    subst hxy
    have ec : cd = cd' := by
      obtain ⟨D, fd, a1, a2, a3⟩ := hx.2.2.1
      obtain ⟨D', fd', b1, b2, b3⟩ := hy.2.2.1
      cases a1.symm.trans b1
      obtain ⟨q1, q2, q3, q4⟩ := a2.1
      obtain ⟨r1, r2, r3, r4⟩ := b2.1
      cases q4.symm.trans r4
      cases a3.symm.trans b3; rfl
    have et : t = t' := by
      obtain ⟨D, fd, a1, a2, a3⟩ := hx.2.1
      obtain ⟨D', fd', b1, b2, b3⟩ := hy.2.1
      cases a1.symm.trans b1
      obtain ⟨q1, q2, q3, q4⟩ := a2.1
      obtain ⟨r1, r2, r3, r4⟩ := b2.1
      cases q4.symm.trans r4
      cases a3.symm.trans b3; rfl
    subst ec et
    have ev : V = V' := by cases hx.2.2.2.1.1.symm.trans hy.2.2.2.1.1; rfl
    subst ev
    have hs : SameT n f k g := (Cod.eqv hx.2.2.2.2.1 hy.2.2.2.2.1 hx.2.2.2.2.2 hy.2.2.2.2.2).mp ⟨rfl, fun _ _ => rfl⟩
    exact ⟨s₁, some (.int 1), _, _, _, X0, rfl, rfl, rfl, (fun h => by cases h), ⟨1, rfl, hh0, Or.inl ⟨rfl, hs⟩⟩, fun fs hl => c2.trans (X0.ireturnOut hexec hret rfl (Or.inr (Or.inl rfl)) (hb hbytes d6) hl)⟩
  · have c2 : Steps p.tables e below (s₁.setTop (entryFrame m #[.ref x, .ref y] 3)) (s₁.setTop (mkF m 8 #[.val (.ref x), .val (.ref y), .unset] [.ref y])) := c1.trans (by
      refine acmpYes X0.here hexec rfl (pc0 := 2) rfl (hb hbytes d2) rfl rfl rfl (by simp [acmp, hxy]) (by decide) rfl ?_
      refine XS.aloadN X0.here hexec rfl (hb hbytes d7) rfl rfl ?_
      exact Steps.refl _)
    obtain ⟨T3, X3, q3, st3⟩ := cinst X0 hexec hown (wk W (.classLink "java/lang/String" 10 "java/lang/String")) (hy.mv X0.warmed.alike hh0).1 (g := (mkF m 8 #[.val (.ref x), .val (.ref y), .unset] [.ref y])) rfl (rest := []) rfl (hb hbytes d8)
    have hh3 := q3.trans hh0
    have c4 : Steps p.tables e below (s₁.setTop (entryFrame m #[.ref x, .ref y] 3)) (T3.setTop (mkF m 15 #[.val (.ref x), .val (.ref y), .unset] [.ref y])) := (c2.trans (st3 _ (Steps.refl _))).trans (by
      refine XS.ifNo X3.here hexec rfl (hb hbytes d11) rfl (i0_eq_f (by decide)) ?_
      refine XS.aloadN X3.here hexec rfl (hb hbytes d14) rfl rfl ?_
      exact Steps.refl _)
    obtain ⟨T5, X5, q5, st5⟩ := cself X3 hexec hown (wk W (.classLink "java/lang/String" 10 "java/lang/String")) (hy.mv X3.warmed.alike hh3).1 (g := (mkF m 15 #[.val (.ref x), .val (.ref y), .unset] [.ref y])) rfl (rest := []) rfl (hb hbytes d15)
    have hh5 := q5.trans hh3
    have c6 : Steps p.tables e below (s₁.setTop (entryFrame m #[.ref x, .ref y] 3)) (T5.setTop (mkF m 19 #[.val (.ref x), .val (.ref y), .val (.ref y)] [])) := (c4.trans (st5 _ (Steps.refl _))).trans (by
      refine XS.astoreN X5.here hexec rfl (hb hbytes d18) rfl rfl rfl ?_
      exact Steps.refl _)
    obtain ⟨T7, X7, q7, st7⟩ := X5.sget hexec hown (wk W (.fieldLink "java/lang/String" 38 "java/lang/String" "COMPACT_STRINGS" "Z")) s1 (fun _ _ h => by rw [hh5]; exact h) (g := (mkF m 19 #[.val (.ref x), .val (.ref y), .val (.ref y)] [])) rfl (hb hbytes d19)
    have hh7 := q7.trans hh5
    have c8 : Steps p.tables e below (s₁.setTop (entryFrame m #[.ref x, .ref y] 3)) (T7.setTop (mkF m 26 #[.val (.ref x), .val (.ref y), .val (.ref y)] [.ref x])) := (c6.trans (st7 _ (Steps.refl _))).trans (by
      refine XS.ifNo X7.here hexec rfl (hb hbytes d22) rfl (i0_eq_f hz) ?_
      refine XS.aloadN X7.here hexec rfl (hb hbytes d25) rfl rfl ?_
      exact Steps.refl _)
    obtain ⟨T9, X9, q9, st9⟩ := X7.hget hexec hown (wk W (.fieldLink "java/lang/String" 15 "java/lang/String" "coder" "B")) (hx.mv X7.warmed.alike hh7).2.2.1 (g := (mkF m 26 #[.val (.ref x), .val (.ref y), .val (.ref y)] [.ref x])) rfl (rest := []) rfl (hb hbytes d26)
    have hh9 := q9.trans hh7
    have c10 : Steps p.tables e below (s₁.setTop (entryFrame m #[.ref x, .ref y] 3)) (T9.setTop (mkF m 30 #[.val (.ref x), .val (.ref y), .val (.ref y)] [.ref y, .int cd])) := (c8.trans (st9 _ (Steps.refl _))).trans (by
      refine XS.aloadN X9.here hexec rfl (hb hbytes d29) rfl rfl ?_
      exact Steps.refl _)
    obtain ⟨T11, X11, q11, st11⟩ := X9.hget hexec hown (wk W (.fieldLink "java/lang/String" 15 "java/lang/String" "coder" "B")) (hy.mv X9.warmed.alike hh9).2.2.1 (g := (mkF m 30 #[.val (.ref x), .val (.ref y), .val (.ref y)] [.ref y, .int cd])) rfl (rest := [.int cd]) rfl (hb hbytes d30)
    have hh11 := q11.trans hh9
    have c12 : Steps p.tables e below (s₁.setTop (entryFrame m #[.ref x, .ref y] 3)) (T11.setTop (mkF m 33 #[.val (.ref x), .val (.ref y), .val (.ref y)] [.int cd', .int cd])) := c10.trans (st11 _ (Steps.refl _))
    by_cases hcd : cd = cd'
    · subst hcd
      have c13 : Steps p.tables e below (s₁.setTop (entryFrame m #[.ref x, .ref y] 3)) (T11.setTop (mkF m 37 #[.val (.ref x), .val (.ref y), .val (.ref y)] [.ref x])) := c12.trans (by
        refine XS.icmpNo X11.here hexec rfl (hb hbytes d33) rfl (ii_ne_f rfl) ?_
        refine XS.aloadN X11.here hexec rfl (hb hbytes d36) rfl rfl ?_
        exact Steps.refl _)
      obtain ⟨T14, X14, q14, st14⟩ := X11.hget hexec hown (wk W (.fieldLink "java/lang/String" 9 "java/lang/String" "value" "[B")) (hx.mv X11.warmed.alike hh11).2.1 (g := (mkF m 37 #[.val (.ref x), .val (.ref y), .val (.ref y)] [.ref x])) rfl (rest := []) rfl (hb hbytes d37)
      have hh14 := q14.trans hh11
      have c15 : Steps p.tables e below (s₁.setTop (entryFrame m #[.ref x, .ref y] 3)) (T14.setTop (mkF m 41 #[.val (.ref x), .val (.ref y), .val (.ref y)] [.ref y, .ref t])) := (c13.trans (st14 _ (Steps.refl _))).trans (by
        refine XS.aloadN X14.here hexec rfl (hb hbytes d40) rfl rfl ?_
        exact Steps.refl _)
      obtain ⟨T16, X16, q16, st16⟩ := X14.hget hexec hown (wk W (.fieldLink "java/lang/String" 9 "java/lang/String" "value" "[B")) (hy.mv X14.warmed.alike hh14).2.1 (g := (mkF m 41 #[.val (.ref x), .val (.ref y), .val (.ref y)] [.ref y, .ref t])) rfl (rest := [.ref t]) rfl (hb hbytes d41)
      have hh16 := q16.trans hh14
      have c17 : Steps p.tables e below (s₁.setTop (entryFrame m #[.ref x, .ref y] 3)) (T16.setTop (mkF m 44 #[.val (.ref x), .val (.ref y), .val (.ref y)] [.ref t', .ref t])) := c15.trans (st16 _ (Steps.refl _))
      obtain ⟨v18, T18, X18, E18, g18⟩ := X16.callS hexec (LEq.law l t V t' V') hown (wks W (staticW "java/lang/String" 541 LEq.yN)) (wk W LEq.tab) (W := 0) (Nat.le_of_ble_eq_true rfl) (Nat.le_of_ble_eq_true rfl) (Nat.le_refl _) (Nat.le_refl _) (g := (mkF m 44 #[.val (.ref x), .val (.ref y), .val (.ref y)] [.ref t', .ref t])) rfl (by rw [hml]; rfl) c17 (argsL := [.ref t, .ref t']) (rest := []) rfl rfl (by show 2 * 0 + 0 ≤ _; decide) (hb hbytes d44) (⟨rfl, hx.2.2.2.1.mv X16.warmed.alike hh16, hx.2.2.2.2.1.ty, hy.2.2.2.1.mv X16.warmed.alike hh16, hy.2.2.2.2.1.ty⟩)
      obtain ⟨v, rfl, q18, hv⟩ := E18
      have iff := Cod.eqv hx.2.2.2.2.1 hy.2.2.2.2.1 hx.2.2.2.2.2 hy.2.2.2.2.2
      rcases hv with ⟨rfl, he⟩ | ⟨rfl, he⟩
      · have c19 : Steps p.tables e below (s₁.setTop (entryFrame m #[.ref x, .ref y] 3)) (T18.setTop (mkF m 55 #[.val (.ref x), .val (.ref y), .val (.ref y)] [.int 1])) := Steps.trans g18 (by
          refine XS.ifNo X18.here hexec rfl (hb hbytes d47) rfl (i0_eq_f (by decide)) ?_
          refine iconstV X18.here hexec rfl 1 (hb hbytes d50) (by decide) ?_
          refine XS.goto X18.here hexec rfl (pc0 := 51) rfl (hb hbytes d51) (by decide) rfl ?_
          exact Steps.refl _)
        exact ⟨T18, some (.int 1), _, _, _, X18, rfl, rfl, rfl, (fun h => by cases h), ⟨1, rfl, q18.trans hh16, Or.inl ⟨rfl, iff.mp he⟩⟩, fun fs hl => c19.trans (X18.ireturnOut hexec hret rfl (Or.inr (Or.inl rfl)) (hb hbytes d55) hl)⟩
      · have c19 : Steps p.tables e below (s₁.setTop (entryFrame m #[.ref x, .ref y] 3)) (T18.setTop (mkF m 55 #[.val (.ref x), .val (.ref y), .val (.ref y)] [.int 0])) := Steps.trans g18 (by
          refine XS.ifYes X18.here hexec rfl (pc0 := 47) rfl (hb hbytes d47) rfl (i0_eq_t rfl) (by decide) rfl ?_
          refine iconstV X18.here hexec rfl 0 (hb hbytes d54) (by decide) ?_
          exact Steps.refl _)
        exact ⟨T18, some (.int 0), _, _, _, X18, rfl, rfl, rfl, (fun h => by cases h), ⟨0, rfl, q18.trans hh16, Or.inr ⟨rfl, fun q => he (iff.mpr q)⟩⟩, fun fs hl => c19.trans (X18.ireturnOut hexec hret rfl (Or.inr (Or.inl rfl)) (hb hbytes d55) hl)⟩
    · have c13 : Steps p.tables e below (s₁.setTop (entryFrame m #[.ref x, .ref y] 3)) (T11.setTop (mkF m 55 #[.val (.ref x), .val (.ref y), .val (.ref y)] [.int 0])) := c12.trans (by
        refine XS.icmpYes X11.here hexec rfl (pc0 := 33) rfl (hb hbytes d33) rfl (ii_ne_t hcd) (by decide) rfl ?_
        refine iconstV X11.here hexec rfl 0 (hb hbytes d54) (by decide) ?_
        exact Steps.refl _)
      exact ⟨T11, some (.int 0), _, _, _, X11, rfl, rfl, rfl, (fun h => by cases h), ⟨0, rfl, hh11, Or.inr ⟨rfl, Cod.dif hx.2.2.2.2.1 hy.2.2.2.2.1 hcd⟩⟩, fun fs hl => c13.trans (X11.ireturnOut hexec hret rfl (Or.inr (Or.inl rfl)) (hb hbytes d55) hl)⟩
theorem pays {l : Launch} {R : Room} {p : Program} {e : Env} {below : List Frame} {s : State} {sargs : Array Value} {len W : Nat} (x t : Addr) (V : Cell) (cd : Int32) (n : Nat) (f : Nat → Int32) (y t' : Addr) (V' : Cell) (cd' : Int32) (k : Nat) (g : Nat → Int32) (z : Int32) (htab : tab.before sargs s = true) (hfr : 2 ≤ R.frames) (hlo : W + 28 ≤ R.locals) :
    Back l R p e below s sargs yN len W (fun A₁ a₁ => A₁.cells + 0 ≤ R.cells ∧ A₁.slots + 0 ≤ R.slots ∧ P x t V cd n f y t' V' cd' k g z a₁ A₁.U) (fun A₁ _ v₁ B₁ => Says01 (SameT n f k g) v₁ A₁.U B₁.U ∧ B₁.locs = A₁.locs ++ [] ∧ B₁.cells = A₁.cells + 0 ∧ B₁.slots = A₁.slots + 0) :=
  (law l x t V cd n f y t' V' cd' k g z).pays htab hfr (by omega)
end SEq
end StrChars
namespace StrChars.Road
open Jvm Sem ClassFile Op Lib Jvm.Stand Jvm.Free Jvm.Free.XT
open Jvm.Lib.Cold (StaticIs)
/-- the words of String.equals(Object) -/
abbrev wordsEq : List Jvm.Cond := [.code SEq.yN SEq.yB 3 (some .boolean), .initialized ST, .classLink ST 10 ST, .fieldLink ST 38 ST "COMPACT_STRINGS" "Z", .fieldLink ST 15 ST "coder" "B", .fieldLink ST 9 ST "value" "[B", .methodLink ST 541 LEq.yN, .static LEq.yN, .code LEq.yN LEq.yB 3 (some .boolean), .initialized "java/lang/StringLatin1"]
theorem tabEq_of {a : Array Value} {s : State} (h : ∀ w ∈ wordsEq, w.before a s = true) : SEq.tab.before a s = true := by
  have hl : LEq.tab.before a s = true := unparts (wk h (.code LEq.yN LEq.yB 3 (some .boolean))) (wks h (.initialized LEq.yN.cls :: LEq.site))
  have q := consq hl h
  exact unparts (wk q (.code SEq.yN SEq.yB 3 (some .boolean))) (wks q (.initialized SEq.yN.cls :: SEq.site))
theorem movedEq {Z s : State} {a0 args : Array Value} (hZ : Z.Warmed39 s.vm) (hw : ∀ d ∈ wordsEq, d.before a0 Z = true) : ∀ d ∈ wordsEq, d.before args s = true := fun d hd => by
  have t : ∀ d ∈ wordsEq, (d.onTables && d.keepsFace) = true := by decide +kernel
  exact RoadKit.mv hZ (hw d hd) (t d hd)
/-- the road's facts of a String, as the laws ask it -/
theorem txt_of {Z U : State} {a0 : Array Value} {kI : Nat} (wi : (Jvm.Cond.instantiable ST kI).before a0 Z = true) (al : Z.vm.Alike U.vm) {x t : Addr} {kb : ClassId} {cs : List Int32} {cd N2 : Int32} {vs : List Value} (E : RoadKit.Exa Z U.heap x ST) (V : RoadKit.Fld Z U.heap x ST "value" "[B" (.ref t)) (C : RoadKit.Fld Z U.heap x ST "coder" "B" (.int cd)) (K : RoadKit.Arv Z U.heap t kb .byte N2 vs (.int 0)) (hc : CodA cs cd N2 vs) (hb : ∀ c ∈ cs, ¬ c < 0 ∧ ¬ (65535 : Int32) < c) (l2 : cs.length ≤ 4000) :
    ∃ A, Txt x t A cd cs.length (fun j => cs.getD j 0) U := by
  obtain ⟨A, K1, K2, K3, K4, K5, K6⟩ := K
  have hcod := hc.cod (by omega) K3 K5
  obtain ⟨D, fV, fC, hB, F1, F2, g1, g2, -, -⟩ := strObj wi al E V C
  exact ⟨A, ⟨_, hB.2.2.1, D, hB.1, rfl, by cases q : D.vm <;> first | rfl | exact absurd q (hB.2.1.2 _)⟩, Has.of hB F1 g1, Has.of hB F2 g2, ⟨K1.1, State.isArrayOf_alike al K1.2.1, K1.2.2, by rcases hcod with ⟨-, q, -⟩ | ⟨-, q, -⟩ <;> omega⟩, hcod, fun j hj => by
    have e : cs.getD j 0 = cs[j] := by simp [List.getD_eq_getElem?_getD, hj]
    show ¬ cs.getD j 0 < 0 ∧ ¬ 65535 < cs.getD j 0
    rw [e]; exact hb _ (List.getElem_mem _)⟩
theorem same_list (cs ds : List Int32) : SameT cs.length (fun j => cs.getD j 0) ds.length (fun j => ds.getD j 0) ↔ cs = ds := by
  constructor
  · rintro ⟨e, q⟩
    refine List.ext_getElem e fun j h1 h2 => ?_
    have := q j h1
    simpa [List.getD_eq_getElem?_getD, h1, h2] using this
  · rintro rfl
    exact ⟨rfl, fun _ _ => rfl⟩
/-- **equals(Object) OF TWO SUCH STRINGS**: 1 just where the chars are the same -/
theorem eqW {p : Program} {l : Launch} {e : Env} {R : Room} {s : State} {args : Array Value} {below : List Frame} {len W : Nat} {Z : State} {a0 : Array Value} {h : Heap} (hZ : Z.Warmed39 s.vm) (hw : ∀ d ∈ wordsEq, d.before a0 Z = true) {kI : Nat} (wi : (Jvm.Cond.instantiable ST kI).before a0 Z = true)
    {x t : Addr} {kb : ClassId} {cs : List Int32} {cd N2 : Int32} {vs : List Value} (E : RoadKit.Exa Z h x ST) (V : RoadKit.Fld Z h x ST "value" "[B" (.ref t)) (C : RoadKit.Fld Z h x ST "coder" "B" (.int cd)) (K : RoadKit.Arv Z h t kb .byte N2 vs (.int 0)) (hc : CodA cs cd N2 vs) (hb : ∀ c ∈ cs, ¬ c < 0 ∧ ¬ (65535 : Int32) < c) (l2 : cs.length ≤ 4000)
    {y t' : Addr} {kb' : ClassId} {ds : List Int32} {cd' N2' : Int32} {vs' : List Value} (E' : RoadKit.Exa Z h y ST) (V' : RoadKit.Fld Z h y ST "value" "[B" (.ref t')) (C' : RoadKit.Fld Z h y ST "coder" "B" (.int cd')) (K' : RoadKit.Arv Z h t' kb' .byte N2' vs' (.int 0)) (hc' : CodA ds cd' N2' vs') (hb' : ∀ c ∈ ds, ¬ c < 0 ∧ ¬ (65535 : Int32) < c) (l2' : ds.length ≤ 4000)
    {z : Int32} (S : RoadKit.Sta Z h ST "COMPACT_STRINGS" "Z" (.int z)) (hz : ¬ z = 0) (hfr : 2 ≤ R.frames) (hlo : W + 28 ≤ R.locals) :
    Back l R p e below s args (⟨"java/lang/String", "equals", "(Ljava/lang/Object;)Z"⟩ : MethodName) len W (fun P a => a = #[.ref x, .ref y] ∧ P.U.heap = h ∧ P.cells + 0 ≤ R.cells ∧ P.slots + 0 ≤ R.slots)
      (fun P _ v B => ∃ L, (((v = some (.int 1) ∧ cs = ds) ∨ (v = some (.int 0) ∧ ¬ cs = ds)) ∧ L = [] ∧ B.U.heap = h) ∧ B.locs = P.locs ++ L ∧ B.cells = P.cells + 0 ∧ B.slots = P.slots + 0) := by
  intro m meth c P g ig mk a X hg hsize hdg hW hn hp'
  obtain ⟨rfl, rfl, r1, r2⟩ := hp'
  have al : Z.vm.Alike P.U.vm := hZ.alike.trans X.warmed.alike
  obtain ⟨A, hx⟩ := txt_of wi al E V C K hc hb l2
  obtain ⟨A', hy⟩ := txt_of wi al E' V' C' K' hc' hb' l2'
  obtain ⟨v, B, X', ⟨⟨w, hv, hh, hq⟩, hl, hk, hs⟩, st⟩ := SEq.pays x t A cd cs.length (fun j => cs.getD j 0) y t' A' cd' ds.length (fun j => ds.getD j 0) z (tabEq_of (movedEq hZ hw)) hfr hlo m meth c P g ig mk _ X hg hsize hdg hW hn ⟨r1, r2, rfl, hx, hy, sta_is al S, hz⟩
  refine ⟨v, B, X', ⟨[], ⟨?_, rfl, hh⟩, hl, hk, hs⟩, st⟩
  rcases hq with ⟨rfl, q⟩ | ⟨rfl, q⟩
  · exact Or.inl ⟨hv, (same_list cs ds).mp q⟩
  · exact Or.inr ⟨hv, fun e => q ((same_list cs ds).mpr e)⟩
end StrChars.Road
namespace StrChars.Road
open Jvm Sem ClassFile Op Lib Jvm.Stand Jvm.Free Jvm.Free.XT
open Jvm.Lib.Cold (StaticIs)
/-- what backV says of its String, as the contracts of this text ask it: cs's low bytes, coder 0 -/
theorem codOf {cs : List Int32} {n : Nat} (hn : cs.length = n) (hb : ∀ c ∈ cs, ¬ 255 < c) : CodA cs 0 (Int32.ofNat n) ((cs.map lo8).map Value.int) := Or.inl ⟨rfl, by rw [hn], by simp [List.map_map, Function.comp_def], hb⟩
end StrChars.Road
end Jvm.Pilot.@@N@@
namespace Jvm.Pilot.@@N@@
open Jvm Jvm.ClassFile Sem Op Lib Jvm.Free Jvm.Stand Jvm.LawKit Jvm.RoadKit Bundle Jvm.Pilot.@@N@@.Jvm.D
theorem own_w {Z : State} {a0 : Array Value} {d : Jvm.Cond} (hw : ∀ d ∈ tables_1, d.before a0 Z = true) (i : Nat) (h : tables_1[i]? = some d) : d.before a0 Z = true := hw d (List.mem_of_getElem? h)
section OwnKit
variable {p : Program} {l : Launch} {e : Env} {R : Room} {s : State} {m : MethodId} {args : Array Value} {below : List Frame} {meth : Method} {c : Code} {T : State} {locs : List Loc} {cells slots : Nat}
/-- the run from S comes to an end of which Q holds -/
def own_Go (p : Program) (e : Env) (below : List Frame) (Q : Outcome → State → Prop) (S : State) : Prop := ∃ s₂ o, Steps p.tables e below S s₂ ∧ s₂.status = .running ∧ Ended s₂ below o ∧ Q o s₂
theorem own_via {Q : Outcome → State → Prop} {A B : State} (h : ∀ t, Steps p.tables e below B t → Steps p.tables e below A t) (g : own_Go p e below Q B) : own_Go p e below Q A := by
  obtain ⟨s2, o, h1, r⟩ := g
  exact ⟨s2, o, h _ h1, r⟩
theorem own_seq {Q : Outcome → State → Prop} {A B : State} (h : own_Go p e below Q B → own_Go p e below Q A) (k : own_Go p e below Q B) : own_Go p e below Q A := h k
theorem own_cast {Q : Outcome → State → Prop} {g g' : JFrame} (q : g = g') (k : own_Go p e below Q (T.setTop g')) : own_Go p e below Q (T.setTop g) := q ▸ k
theorem own_keep_mono {h0 h : Heap} {ws ws' : List Addr} (K : Keep h0 h ws) (q : ∀ x ∈ ws, x ∈ ws') : Keep h0 h ws' := ⟨K.1, fun x c a b => K.2.1 x c a fun z => b (q x z), K.2.2⟩
theorem own_ret0 {Qv : Option Value → Heap → List Loc → Prop} {kc ks : Nat} (X : Stand p l e R s m args below meth c T locs cells slots) (hlocks : meth.locks = false) (hx : p.tables.exec = Jvm.exec) {pc : Nat} {Ls : Array Slot} (hret : meth.sig.returnType = none) (hd : decode c.code pc = .ok (.return_, 1)) (hk : cells ≤ kc) (hs : slots ≤ ks) (hQ : Qv none T.heap locs) :
    own_Go p e below (fun o U' => ∃ v L, o = .returned v ∧ Qv v U'.heap L ∧ FrameEnd s o U' L kc ks) (T.setTop (mkF m pc Ls [])) := by
  obtain ⟨fs, hr, hrun, hended, hW, hsame⟩ := X.leave (v := none) (fun _ => rfl) hlocks
  exact ⟨_, _, X.returnOut hx hret hd hr, hrun, hended, _, _, rfl, hQ, ⟨_, rfl⟩, hW, hsame.mono hk hs⟩
theorem own_retv {Qv : Option Value → Heap → List Loc → Prop} {kc ks : Nat} (X : Stand p l e R s m args below meth c T locs cells slots) (hlocks : meth.locks = false) (hx : p.tables.exec = Jvm.exec) {pc : Nat} {Ls : Array Slot} {w : Value} {t : FieldType} {i : Instr} {rest : List Value} (hret : meth.sig.returnType = some t) (hn : narrow t w = w)
    (hi : (i = .ireturn ∧ (t = .int ∨ t = .boolean ∨ t = .byte ∨ t = .char ∨ t = .short) ∧ ∃ z, w = .int z) ∨ (i = .lreturn ∧ t = .long ∧ ∃ z, w = .long z) ∨ (i = .dreturn ∧ t = .double ∧ ∃ z, w = .double z) ∨ (i = .freturn ∧ t = .float ∧ ∃ z, w = .float z) ∨ (i = .areturn ∧ t.isReference = true ∧ w.isRef = true))
    (hd : decode c.code pc = .ok (i, 1)) (hk : cells ≤ kc) (hs : slots ≤ ks) (hQ : Qv (some w) T.heap locs) :
    own_Go p e below (fun o U' => ∃ v L, o = .returned v ∧ Qv v U'.heap L ∧ FrameEnd s o U' L kc ks) (T.setTop (mkF m pc Ls (w :: rest))) := by
  obtain ⟨fs, hr, hrun, hended, hW, hsame⟩ := X.leave (v := some w) (fun h => by rw [hret] at h; cases h) hlocks
  exact ⟨_, _, retOut X hx hret hn hi hd hr, hrun, hended, _, _, rfl, hQ, ⟨_, rfl⟩, hW, hsame.mono hk hs⟩
theorem own_pop2L {tb : Tables} [Ours tb] {e : Env} {below : List Frame} {T target : State} {m : MethodId} {c : Code} {g : JFrame} (h : At T m c below) (hx : tb.exec = Jvm.exec) (hg : g.method = m) {x : Int64} {rest : List Value} (hd : decode c.code g.pc = .ok (.pop2, 1)) (hs : g.stack = .long x :: rest)
    (hr : Steps tb e below (T.setTop { g with pc := g.pc + 1, stack := rest }) target) : Steps tb e below (T.setTop g) target := by
  subst hg
  jvm_step h [h.top, hx, hd, hs, Value.category]
  exact hr
theorem own_narR {t : FieldType} {w : Value} (h : w.isRef = true) : narrow t w = w := by
  rcases ref_cases h with rfl | ⟨y, rfl⟩ <;> cases t <;> rfl
theorem own_fitR {C : String} {w : Value} (h : w.isRef = true) : fits (.object C) w = true := by
  rcases ref_cases h with rfl | ⟨y, rfl⟩ <;> rfl
theorem own_fitA {t : FieldType} {w : Value} (h : w.isRef = true) : fits (.array t) w = true := by
  rcases ref_cases h with rfl | ⟨y, rfl⟩ <;> rfl
end OwnKit

section OwnCold
variable {p : Program} {l : Launch} {e : Env} {R : Room} {s : State} {m : MethodId} {args : Array Value} {below : List Frame} {meth : Method} {c : Code} {T : State} {locs : List Loc} {cells slots : Nat} {Z : State} {a0 : Array Value} {h : Heap}
/-- a callee that may load a String constant for the first time; J: a word on the tables at its start; Q speaks of the tables at its end too -/
theorem own_backS {y : MethodName} {bytes : ByteArray} {maxL : Nat} {ret : Option FieldType} {rm : Room} {len W : Nat} {as' : Array Value} {J : Vm → Prop} {Q : Option Value → Heap → List Loc → Vm → Prop}
    (hM : MetFree l y (head1 [Cond.code y bytes maxL ret] rm) (fun a U => a = as' ∧ Z.Warmed39 U.vm ∧ U.heap = h ∧ J U.vm) (fun _ _ _ _ _ => True) (fun _ U o U' => ∃ v L, o = .returned v ∧ Q v U'.heap L U'.vm ∧ ReturnedEndW U o U' L rm.cells rm.slots))
    (hZ : Z.Warmed39 s.vm) (wc : (Cond.code y bytes maxL ret).before a0 Z = true) (wz : (Cond.initialized y.cls).before a0 Z = true) (hf : rm.frames + 1 ≤ R.frames) (hl : W + (maxL + 11) + rm.locals ≤ R.locals) :
    BackS l R p e below s args y len W (fun A a => a = as' ∧ A.U.heap = h ∧ J A.U.vm ∧ A.cells + rm.cells ≤ R.cells ∧ A.slots + rm.slots ≤ R.slots)
      (fun A _ v B => ∃ L, Q v B.U.heap L B.U.vm ∧ B.locs = A.locs ++ L ∧ B.cells = A.cells + rm.cells ∧ B.slots = A.slots + rm.slots) := by
  refine BackS.of_freeW (bytes := bytes) (maxL := maxL) (ret := ret) (E := fun _ _ o t L k n => k = rm.cells ∧ n = rm.slots ∧ ∃ v, o = .returned v ∧ Q v t.heap L t.vm) hM hf hl ?_ ?_ ?_ ?_ ?_
  · intro m meth c A a Y hp
    have hU : Z.Warmed39 A.U.vm := wtrans hZ Y.warmed
    refine ⟨?_, mv hU wc, mv hU wz, hp.2.2.2.1, hp.2.2.2.2⟩
    show (Cond.and _ .tt).before a A.U = true
    rw [Cond.before_and, mv hU wc]; rfl
  · intro m meth c A a g mk Y hp
    exact ⟨hp.1, wtrans hZ Y.warmed, hp.2.1, hp.2.2.1⟩
  · intros; trivial
  · rintro _ _ _ _ ⟨v, L, h1, h2, h3⟩
    exact ⟨L, _, _, h3, rfl, rfl, v, h1, h2⟩
  · rintro m meth c A a g mk v t L k n Y hp - - ⟨e1, e2, v', e3, e4⟩
    cases e3; subst e1 e2
    exact ⟨L, e4, rfl, rfl, rfl⟩
theorem own_ret0W {Qv : Option Value → Heap → List Loc → Vm → Prop} {kc ks : Nat} {vm0 : Vm} {k0 : Nat} (X : Stand p l e R (s.setVm vm0) m args below meth c T locs cells slots) (hS : s.Since vm0 k0) (hk0 : k0 ≤ T.heap.size) (hlocks : meth.locks = false) (hx : p.tables.exec = Jvm.exec) {pc : Nat} {Ls : Array Slot} (hret : meth.sig.returnType = none) (hd : decode c.code pc = .ok (.return_, 1)) (hk : cells ≤ kc) (hs : slots ≤ ks) (hQ : Qv none T.heap locs T.vm) :
    own_Go p e below (fun o U' => ∃ v L, o = .returned v ∧ Qv v U'.heap L U'.vm ∧ ReturnedEndW s o U' L kc ks) (T.setTop (mkF m pc Ls [])) := by
  obtain ⟨fs, hr, hrun, hended, hE⟩ := X.leaveW hS hk0 (v := none) (fun _ => rfl) hlocks
  exact ⟨_, _, X.returnOut hx hret hd hr, hrun, hended, _, _, rfl, hQ, hE.1, hE.2.1, hE.2.2.1, hE.2.2.2.mono hk hs⟩
theorem own_retvW {Qv : Option Value → Heap → List Loc → Vm → Prop} {kc ks : Nat} {vm0 : Vm} {k0 : Nat} (X : Stand p l e R (s.setVm vm0) m args below meth c T locs cells slots) (hS : s.Since vm0 k0) (hk0 : k0 ≤ T.heap.size) (hlocks : meth.locks = false) (hx : p.tables.exec = Jvm.exec) {pc : Nat} {Ls : Array Slot} {w : Value} {t : FieldType} {i : Instr} {rest : List Value} (hret : meth.sig.returnType = some t) (hn : narrow t w = w)
    (hi : (i = .ireturn ∧ (t = .int ∨ t = .boolean ∨ t = .byte ∨ t = .char ∨ t = .short) ∧ ∃ z, w = .int z) ∨ (i = .lreturn ∧ t = .long ∧ ∃ z, w = .long z) ∨ (i = .dreturn ∧ t = .double ∧ ∃ z, w = .double z) ∨ (i = .freturn ∧ t = .float ∧ ∃ z, w = .float z) ∨ (i = .areturn ∧ t.isReference = true ∧ w.isRef = true))
    (hd : decode c.code pc = .ok (i, 1)) (hk : cells ≤ kc) (hs : slots ≤ ks) (hQ : Qv (some w) T.heap locs T.vm) :
    own_Go p e below (fun o U' => ∃ v L, o = .returned v ∧ Qv v U'.heap L U'.vm ∧ ReturnedEndW s o U' L kc ks) (T.setTop (mkF m pc Ls (w :: rest))) := by
  obtain ⟨fs, hr, hrun, hended, hE⟩ := X.leaveW hS hk0 (v := some w) (fun h => by rw [hret] at h; cases h) hlocks
  exact ⟨_, _, retOut X hx hret hn hi hd hr, hrun, hended, _, _, rfl, hQ, hE.1, hE.2.1, hE.2.2.1, hE.2.2.2.mono hk hs⟩
end OwnCold

section OwnStep
variable {p : Program} {l : Launch} {e : Env} {R : Room} {s : State} {m : MethodId} {args : Array Value} {below : List Frame} {meth : Method} {c : Code} {T : State} {locs : List Loc} {cells slots : Nat} {Q : Outcome → State → Prop}
theorem own_iload (X : Stand p l e R s m args below meth c T locs cells slots) (hx : p.tables.exec = Jvm.exec) {q pc : Nat} {Ls : Array Slot} {st : List Value} {j : Nat} {v : Int32} (hd : decode c.code pc = .ok (.iload j, 2)) (hq : pc + 2 = q) (hl : Ls[j]? = some (.val (.int v))) (k : own_Go p e below Q (T.setTop (mkF m q Ls (.int v :: st)))) : own_Go p e below Q (T.setTop (mkF m pc Ls (st))) := by
  subst hq
  exact own_via (fun _ => XS.iload (g := mkF m pc Ls (st)) X.here hx rfl hd hl) k
theorem own_iloadN (X : Stand p l e R s m args below meth c T locs cells slots) (hx : p.tables.exec = Jvm.exec) {q pc : Nat} {Ls : Array Slot} {st : List Value} {j : Fin 4} {v : Int32} (hd : decode c.code pc = .ok (.iload_n j, 1)) (hq : pc + 1 = q) (hl : Ls[j.val]? = some (.val (.int v))) (k : own_Go p e below Q (T.setTop (mkF m q Ls (.int v :: st)))) : own_Go p e below Q (T.setTop (mkF m pc Ls (st))) := by
  subst hq
  exact own_via (fun _ => XS.iloadN (g := mkF m pc Ls (st)) X.here hx rfl hd hl) k
theorem own_aload (X : Stand p l e R s m args below meth c T locs cells slots) (hx : p.tables.exec = Jvm.exec) {q pc : Nat} {Ls : Array Slot} {st : List Value} {j : Nat} {v : Value} (hd : decode c.code pc = .ok (.aload j, 2)) (hq : pc + 2 = q) (hl : Ls[j]? = some (.val v)) (hv : v.isRef = true) (k : own_Go p e below Q (T.setTop (mkF m q Ls (v :: st)))) : own_Go p e below Q (T.setTop (mkF m pc Ls (st))) := by
  subst hq
  exact own_via (fun _ => XS.aload (g := mkF m pc Ls (st)) X.here hx rfl hd hl hv) k
theorem own_aloadN (X : Stand p l e R s m args below meth c T locs cells slots) (hx : p.tables.exec = Jvm.exec) {q pc : Nat} {Ls : Array Slot} {st : List Value} {j : Fin 4} {v : Value} (hd : decode c.code pc = .ok (.aload_n j, 1)) (hq : pc + 1 = q) (hl : Ls[j.val]? = some (.val v)) (hv : v.isRef = true) (k : own_Go p e below Q (T.setTop (mkF m q Ls (v :: st)))) : own_Go p e below Q (T.setTop (mkF m pc Ls (st))) := by
  subst hq
  exact own_via (fun _ => XS.aloadN (g := mkF m pc Ls (st)) X.here hx rfl hd hl hv) k
theorem own_iconst (X : Stand p l e R s m args below meth c T locs cells slots) (hx : p.tables.exec = Jvm.exec) {q pc : Nat} {Ls : Array Slot} {st : List Value} {i : Int} {z : Int32} (hd : decode c.code pc = .ok (.iconst i, 1)) (hq : pc + 1 = q) (hz : Int32.ofInt i = z) (k : own_Go p e below Q (T.setTop (mkF m q Ls (.int z :: st)))) : own_Go p e below Q (T.setTop (mkF m pc Ls (st))) := by
  subst hq hz
  exact own_via (fun _ => XS.iconst (g := mkF m pc Ls (st)) X.here hx rfl hd) k
theorem own_bipush (X : Stand p l e R s m args below meth c T locs cells slots) (hx : p.tables.exec = Jvm.exec) {q pc : Nat} {Ls : Array Slot} {st : List Value} {i : Int} {z : Int32} (hd : decode c.code pc = .ok (.bipush i, 2)) (hq : pc + 2 = q) (hz : (Int8.ofInt i).toInt32 = z) (k : own_Go p e below Q (T.setTop (mkF m q Ls (.int z :: st)))) : own_Go p e below Q (T.setTop (mkF m pc Ls (st))) := by
  subst hq hz
  exact own_via (fun _ => XS.bipush (g := mkF m pc Ls (st)) X.here hx rfl hd) k
theorem own_sipush (X : Stand p l e R s m args below meth c T locs cells slots) (hx : p.tables.exec = Jvm.exec) {q pc : Nat} {Ls : Array Slot} {st : List Value} {i : Int} {z : Int32} (hd : decode c.code pc = .ok (.sipush i, 3)) (hq : pc + 3 = q) (hz : (Int16.ofInt i).toInt32 = z) (k : own_Go p e below Q (T.setTop (mkF m q Ls (.int z :: st)))) : own_Go p e below Q (T.setTop (mkF m pc Ls (st))) := by
  subst hq hz
  exact own_via (fun _ => XS.sipush (g := mkF m pc Ls (st)) X.here hx rfl hd) k
theorem own_aconst (X : Stand p l e R s m args below meth c T locs cells slots) (hx : p.tables.exec = Jvm.exec) {q pc : Nat} {Ls : Array Slot} {st : List Value} (hd : decode c.code pc = .ok (.aconst_null, 1)) (hq : pc + 1 = q) (k : own_Go p e below Q (T.setTop (mkF m q Ls (.null :: st)))) : own_Go p e below Q (T.setTop (mkF m pc Ls (st))) := by
  subst hq
  exact own_via (fun _ => XS.aconstNull (g := mkF m pc Ls (st)) X.here hx rfl hd) k
theorem own_dup (X : Stand p l e R s m args below meth c T locs cells slots) (hx : p.tables.exec = Jvm.exec) {q pc : Nat} {Ls : Array Slot} {st : List Value} {x : Value} (hd : decode c.code pc = .ok (.dup, 1)) (hq : pc + 1 = q) (hc : x.category = 1) (k : own_Go p e below Q (T.setTop (mkF m q Ls (x :: x :: st)))) : own_Go p e below Q (T.setTop (mkF m pc Ls (x :: st))) := by
  subst hq
  exact own_via (fun _ => XS.dup (g := mkF m pc Ls (x :: st)) X.here hx rfl hd rfl hc) k
end OwnStep
theorem own_wS {Z : State} {a0 : Array Value} (hw : ∀ d ∈ tables_1, d.before a0 Z = true) : ∀ a ∈ Bundle.stringAtoms, a.before a0 Z = true := by
  intro d hd
  simp only [Bundle.stringAtoms, List.mem_cons, List.not_mem_nil, or_false] at hd
  rcases hd with rfl | rfl | rfl | rfl | rfl | rfl | rfl
  · exact (own_w hw 24 rfl)
  · exact (own_w hw 23 rfl)
  · exact (own_w hw 40 rfl)
  · exact (own_w hw 69 rfl)
  · exact (own_w hw 67 rfl)
  · exact (own_w hw 203 rfl)
  · exact (own_w hw 204 rfl)
theorem own_hwordsEq {Z : State} {a0 : Array Value} (hw : ∀ d ∈ tables_1, d.before a0 Z = true) : ∀ d ∈ StrChars.Road.wordsEq, d.before a0 Z = true := fun d hd => hw d ((by decide +kernel : ∀ d ∈ StrChars.Road.wordsEq, d ∈ tables_1) d hd)
theorem own_EW {Z : State} {a0 : Array Value} (hw : ∀ d ∈ tables_1, d.before a0 Z = true) : EW Z a0 consts_1 := (EW.cons (own_w hw 202 rfl) (by decide) EW.nil)
theorem own_CHstay {Z s : State} {a0 : Array Value} {EL : List (String × Nat)} {h : Heap} {vm0 vm1 : Vm} (H : CHv Z EL vm0 h) (hZ : Z.Warmed39 vm0) (w : EW Z a0 EL) (hW : (s.setVm vm0).WarmedH vm1) : CHv Z EL vm1 h :=
  (CHv.later (h' := h) hZ (hW := (show (Wst Z vm0 h).Warmed39 vm1 from hW.wide)) w ⟨Nat.le_refl _, fun _ _ q => q⟩ (Or.inl hW.interned_eq) H).1
theorem own_Sfstay {Z s : State} {a0 : Array Value} {EL : List (String × Nat)} {h : Heap} {vm0 vm1 : Vm} {x : Addr} (H : CHv Z EL vm0 h) (hZ : Z.Warmed39 vm0) (w : EW Z a0 EL) (hW : (s.setVm vm0).WarmedH vm1) (hx : x < h.size) (S : Safe Z EL vm0 h x) : Safe Z EL vm1 h x := fun B =>
  ((CHv.later (h' := h) hZ (hW := (show (Wst Z vm0 h).Warmed39 vm1 from hW.wide)) w ⟨Nat.le_refl _, fun _ _ q => q⟩ (Or.inl hW.interned_eq) H).2 x B).elim S fun q => absurd hx (Nat.not_lt.mpr q)
theorem own_SfArv {Z : State} {EL : List (String × Nat)} {vm : Vm} {h : Heap} {a : Addr} {k : ClassId} {ty : FieldType} {z : Int32} {vs : List Value} {d : Value} (hal : Z.vm.Alike vm) (A : Arv Z h a k ty z vs d) (ht : ty ≠ .byte) : Safe Z EL vm h a := by
  obtain ⟨c, A, -⟩ := A
  exact Safe.arr hal A ht

open StrChars (lo8 hi8 pairCh pair_says)
open StrChars.Road (CodA wideBytes wide_lo wide_hi)
theorem own_toInt {i : Nat} (h : i < 2 ^ 31) : (Int32.ofNat i).toInt = i := Int32.toInt_ofNat_small h
theorem own_clamp {i : Nat} (h : i < 2 ^ 31) : (Int32.ofNat i).toNatClampNeg = i := by
  show (Int32.ofNat i).toInt.toNat = i
  rw [own_toInt h]; omega
theorem own_lt {i j : Nat} (hi : i < 2 ^ 31) (hj : j < 2 ^ 31) : Int32.ofNat i < Int32.ofNat j ↔ i < j := by
  rw [Int32.lt_iff_toInt_lt, own_toInt hi, own_toInt hj]; omega
theorem own_eq {i j : Nat} (hi : i < 2 ^ 31) (hj : j < 2 ^ 31) : Int32.ofNat i = Int32.ofNat j ↔ i = j := by
  constructor
  · intro h
    have := congrArg Int32.toInt h
    rw [own_toInt hi, own_toInt hj] at this; omega
  · rintro rfl; rfl
theorem own_nn {i : Nat} (h : i < 2 ^ 31) : ¬ Int32.ofNat i < 0 := fun q => by
  have := (own_lt (i := i) (j := 0) h (by decide)).mp q
  omega
theorem own_add (i k : Nat) : Int32.ofNat i + Int32.ofNat k = Int32.ofNat (i + k) := (Int32.ofNat_add i k).symm
theorem own_succ (i : Nat) : Int32.ofNat i + (1 : Int32) = Int32.ofNat (i + 1) := own_add i 1
theorem own_succ2 (i : Nat) : Int32.ofNat i + (2 : Int32) = Int32.ofNat (i + 2) := own_add i 2
theorem own_sub0 (x : Int32) : x - (0 : Int32) = x := Int32.sub_zero x
theorem own_add0 (x : Int32) : (0 : Int32) + x = x := Int32.zero_add x
theorem own_shl1 (n : Nat) (h : n ≤ 103) : Int32.ofNat n <<< ((1 : Int32) &&& 31) = Int32.ofNat (2 * n) := by
  have t : ∀ k : Fin 104, Int32.ofNat k.val <<< ((1 : Int32) &&& 31) = Int32.ofNat (2 * k.val) := by decide +kernel
  exact t ⟨n, by omega⟩
theorem own_shr0 (x : Int32) : x >>> ((0 : Int32) &&& 31) = x := by
  show x >>> (0 : Int32) = x
  simp
theorem own_shr1 {n : Nat} (h : n ≤ 103) : Int32.ofNat (2 * n) >>> ((1 : Int32) &&& 31) = Int32.ofNat n := by
  have t : ∀ k : Fin 104, Int32.ofNat (2 * k.val) >>> ((1 : Int32) &&& 31) = Int32.ofNat k.val := by decide +kernel
  exact t ⟨n, by omega⟩
theorem own_inbs {c : Cell} {n i : Nat} (S : c.slots.size = (Int32.ofNat n).toNatClampNeg) (hn : n < 2 ^ 31) (hi : i < n) : ¬ (Int32.ofNat i < 0 ∨ c.slots.size ≤ (Int32.ofNat i).toNatClampNeg) := by
  rw [S, own_clamp hn, own_clamp (Nat.lt_trans hi hn)]
  rintro (q | q)
  · exact own_nn (Nat.lt_trans hi hn) q
  · omega
theorem own_getD {bs : List Int32} {i : Nat} (h : i < 2 ^ 31) : (bs.map Value.int).getD (Int32.ofNat i).toNatClampNeg (.int 0) = .int (bs.getD i 0) := by
  rw [own_clamp h]
  simp only [List.getD_eq_getElem?_getD, List.getElem?_map]
  cases bs[i]? <;> rfl
theorem own_getL {cs : List Int32} {i : Nat} (h : i < 2 ^ 31) (hi : i < cs.length) : (cs.map fun c => Value.int (lo8 c)).getD (Int32.ofNat i).toNatClampNeg (.int 0) = .int (lo8 (cs.getD i 0)) := by
  rw [own_clamp h]; exact StrChars.Road.low_at _ _ _ hi
theorem own_getW0 {cs : List Int32} {i : Nat} (h : i ≤ 103) (hi : i < cs.length) : (wideBytes cs).getD (Int32.ofNat (2 * i)).toNatClampNeg (.int 0) = .int (lo8 (cs.getD i 0)) := by
  rw [own_clamp (by omega)]; exact wide_lo _ _ _ hi
theorem own_getW1 {cs : List Int32} {i : Nat} (h : i ≤ 103) (hi : i < cs.length) : (wideBytes cs).getD (Int32.ofNat (2 * i + 1)).toNatClampNeg (.int 0) = .int (hi8 (cs.getD i 0)) := by
  rw [own_clamp (by omega)]; exact wide_hi _ _ _ hi
theorem own_nari (X : Int32) : nar .char (X.toUInt32.toUInt16.toUInt32.toInt32) = X.toUInt32.toUInt16.toUInt32.toInt32 := by
  show (X.toUInt32.toUInt16.toUInt32.toInt32).toUInt32.toUInt16.toUInt32.toInt32 = X.toUInt32.toUInt16.toUInt32.toInt32
  apply Int32.toBitVec_inj.mp
  show (((X.toBitVec.setWidth 16).setWidth 32).setWidth 16).setWidth 32 = (X.toBitVec.setWidth 16).setWidth 32
  apply BitVec.eq_of_toNat_eq
  simp only [BitVec.toNat_setWidth]
  omega
theorem own_nar16 {c : Int32} (h : ¬ c < 0 ∧ ¬ (65535 : Int32) < c) : nar .char c = c := by
  have q : nar .char (pairCh (lo8 c) (hi8 c)) = pairCh (lo8 c) (hi8 c) := own_nari _
  rwa [pair_says h.1 h.2] at q
theorem own_narV {z : Int32} (h : ¬ z < 0 ∧ ¬ (65535 : Int32) < z) : narrow .char (.int z) = .int z := congrArg Value.int (own_nar16 h)
theorem own_c16 (x : Int32) : ¬ (x.toUInt32.toUInt16.toUInt32.toInt32) < 0 ∧ ¬ (65535 : Int32) < (x.toUInt32.toUInt16.toUInt32.toInt32) := by
  generalize x.toUInt32.toUInt16 = u
  have hu := u.toNat_lt
  have h : (u.toUInt32.toInt32).toInt = (u.toNat : Int) := by
    show ((u.toUInt32).toBitVec).toInt = _
    rw [BitVec.toInt_eq_toNat_of_lt (by show 2 * u.toUInt32.toNat < 2 ^ 32; rw [UInt16.toNat_toUInt32]; omega)]
    show ((u.toUInt32.toNat : Nat) : Int) = _
    rw [UInt16.toNat_toUInt32]
  constructor
  · intro q
    rw [Int32.lt_iff_toInt_lt, h] at q
    have e : (0 : Int32).toInt = 0 := rfl
    omega
  · intro q
    rw [Int32.lt_iff_toInt_lt, h] at q
    have e : (65535 : Int32).toInt = 65535 := rfl
    omega
theorem own_nb (x : Int32) : nar .byte (x.toInt8.toInt32) = lo8 x := by
  show (x.toInt8.toInt32).toInt8.toInt32 = x.toInt8.toInt32
  simp
abbrev own_hi (c : Int32) : Prop := ¬ c < 55296 ∧ c < 56320
abbrev own_lo (c : Int32) : Prop := ¬ c < 56320 ∧ c < 57344
theorem own_le1 {a b : Int32} (h : b.toInt = a.toInt + 1) (c : Int32) : a < c ↔ ¬ c < b := by
  rw [Int32.lt_iff_toInt_lt, Int32.lt_iff_toInt_lt]; omega
theorem own_hiL {c : Int32} (h1 : ¬ c < (55296 : Int32)) (h2 : ¬ (56319 : Int32) < c) : own_hi c := ⟨h1, Classical.byContradiction fun q => h2 ((own_le1 (by decide) c).mpr q)⟩
theorem own_hiN {c : Int32} (h2 : (56319 : Int32) < c) : ¬ own_hi c := fun q => (own_le1 (by decide) c).mp h2 q.2
theorem own_loL {c : Int32} (h1 : ¬ c < (56320 : Int32)) (h2 : ¬ (57343 : Int32) < c) : own_lo c := ⟨h1, Classical.byContradiction fun q => h2 ((own_le1 (by decide) c).mpr q)⟩
theorem own_loN {c : Int32} (h2 : (57343 : Int32) < c) : ¬ own_lo c := fun q => (own_le1 (by decide) c).mp h2 q.2
/-- the place behind the code point at i -/
def own_nx (cs : List Int32) (i : Nat) : Nat := if i < cs.length then (if own_hi (cs.getD i 0) ∧ i + 1 < cs.length ∧ own_lo (cs.getD (i + 1) 0) then i + 2 else i + 1) else i
def own_it (cs : List Int32) : Nat → Nat → Nat
  | 0, i => i
  | k + 1, i => own_nx cs (own_it cs k i)
theorem own_its (cs : List Int32) (k i : Nat) : own_it cs (k + 1) i = own_nx cs (own_it cs k i) := rfl
theorem own_itz (cs : List Int32) (i : Nat) : own_it cs 0 i = i := rfl
theorem own_nx2 {cs : List Int32} {i : Nat} (h : i < cs.length) (a : own_hi (cs.getD i 0)) (b : i + 1 < cs.length) (d : own_lo (cs.getD (i + 1) 0)) : own_nx cs i = i + 2 := by
  have q : own_hi (cs.getD i 0) ∧ i + 1 < cs.length ∧ own_lo (cs.getD (i + 1) 0) := ⟨a, b, d⟩
  unfold own_nx
  rw [if_pos h, if_pos q]
theorem own_nx1 {cs : List Int32} {i : Nat} (h : i < cs.length) (a : own_hi (cs.getD i 0) → i + 1 < cs.length → own_lo (cs.getD (i + 1) 0) → False) : own_nx cs i = i + 1 := by
  have q : ¬ (own_hi (cs.getD i 0) ∧ i + 1 < cs.length ∧ own_lo (cs.getD (i + 1) 0)) := fun q => a q.1 q.2.1 q.2.2
  unfold own_nx
  rw [if_pos h, if_neg q]
theorem own_nx0 {cs : List Int32} {i : Nat} (h : ¬ i < cs.length) : own_nx cs i = i := by
  unfold own_nx
  rw [if_neg h]
theorem own_nxc (cs : List Int32) (i : Nat) : (i < cs.length ∧ own_nx cs i = i + 1) ∨ (i + 1 < cs.length ∧ own_nx cs i = i + 2) ∨ (¬ i < cs.length ∧ own_nx cs i = i) := by
  by_cases h : i < cs.length
  · by_cases q : own_hi (cs.getD i 0) ∧ i + 1 < cs.length ∧ own_lo (cs.getD (i + 1) 0)
    · exact Or.inr (Or.inl ⟨q.2.1, own_nx2 h q.1 q.2.1 q.2.2⟩)
    · exact Or.inl ⟨h, own_nx1 h fun a b d => q ⟨a, b, d⟩⟩
  · exact Or.inr (Or.inr ⟨h, own_nx0 h⟩)
theorem own_nxle {cs : List Int32} {i : Nat} (h : i ≤ cs.length) : own_nx cs i ≤ cs.length := by
  rcases own_nxc cs i with ⟨h1, h2⟩ | ⟨h1, h2⟩ | ⟨h1, h2⟩ <;> omega
theorem own_nxge (cs : List Int32) (i : Nat) : i ≤ own_nx cs i := by
  rcases own_nxc cs i with ⟨h1, h2⟩ | ⟨h1, h2⟩ | ⟨h1, h2⟩ <;> omega
/-- the first place of a char above 255 (or the length) -/
def own_F (cs : List Int32) (k : Nat) : Prop := k ≤ cs.length ∧ (∀ j, j < k → ¬ (255 : Int32) < cs.getD j 0) ∧ (k < cs.length → (255 : Int32) < cs.getD k 0)
def own_low (cs : List Int32) (k : Nat) : List Value := (List.range cs.length).map fun j => if j < k then .int (lo8 (cs.getD j 0)) else .int 0
theorem own_lowlen (cs : List Int32) (k : Nat) : (own_low cs k).length = cs.length := by simp [own_low]
theorem own_low0 (cs : List Int32) : List.replicate cs.length (Value.int 0) = own_low cs 0 := by
  refine List.ext_getElem (by rw [List.length_replicate, own_lowlen]) fun j h1 h2 => ?_
  simp [own_low]
theorem own_lowset {cs : List Int32} {i : Nat} (h : i < cs.length) : (own_low cs i).set i (.int (lo8 (cs.getD i 0))) = own_low cs (i + 1) := by
  refine List.ext_getElem (by rw [List.length_set, own_lowlen, own_lowlen]) fun j h1 h2 => ?_
  rw [List.getElem_set]
  by_cases e : i = j
  · subst e
    rw [if_pos rfl]
    simp only [own_low, List.getElem_map, List.getElem_range]
    rw [if_pos (Nat.lt_succ_self i)]
  · rw [if_neg e]
    simp only [own_low, List.getElem_map, List.getElem_range]
    by_cases q : j < i
    · rw [if_pos q, if_pos (by omega)]
    · rw [if_neg q, if_neg (by omega)]
theorem own_lown (cs : List Int32) : own_low cs cs.length = cs.map fun c => Value.int (lo8 c) := by
  refine List.ext_getElem (by rw [own_lowlen, List.length_map]) fun j h1 h2 => ?_
  have hj : j < cs.length := by rw [own_lowlen] at h1; exact h1
  simp only [own_low, List.getElem_map, List.getElem_range]
  rw [if_pos hj, List.getD_eq_getElem?_getD, List.getElem?_eq_getElem hj] <;> rfl
theorem own_widelen : ∀ cs : List Int32, (wideBytes cs).length = 2 * cs.length
  | [] => rfl
  | c :: cs => by
    have q := own_widelen cs
    show (wideBytes cs).length + 1 + 1 = 2 * (cs.length + 1)
    omega
def own_wd (cs : List Int32) (i : Nat) : List Value := (List.range (2 * cs.length)).map fun j => if j < 2 * i then (wideBytes cs).getD j (.int 0) else .int 0
theorem own_wdlen (cs : List Int32) (k : Nat) : (own_wd cs k).length = 2 * cs.length := by simp [own_wd]
theorem own_wd0 (cs : List Int32) : List.replicate (2 * cs.length) (Value.int 0) = own_wd cs 0 := by
  refine List.ext_getElem (by rw [List.length_replicate, own_wdlen]) fun j h1 h2 => ?_
  simp [own_wd]
theorem own_wdset {cs : List Int32} {i : Nat} (h : i < cs.length) : ((own_wd cs i).set (2 * i) (.int (lo8 (cs.getD i 0)))).set (2 * i + 1) (.int (hi8 (cs.getD i 0))) = own_wd cs (i + 1) := by
  refine List.ext_getElem (by rw [List.length_set, List.length_set, own_wdlen, own_wdlen]) fun j h1 h2 => ?_
  rw [List.getElem_set, List.getElem_set]
  by_cases e1 : 2 * i + 1 = j
  · subst e1
    have e := wide_hi (.int 0) cs i h
    rw [if_pos rfl]
    simp only [own_wd, List.getElem_map, List.getElem_range]
    rw [if_pos (by omega), e]
  · rw [if_neg e1]
    by_cases e0 : 2 * i = j
    · subst e0
      have e := wide_lo (.int 0) cs i h
      rw [if_pos rfl]
      simp only [own_wd, List.getElem_map, List.getElem_range]
      rw [if_pos (by omega), e]
    · rw [if_neg e0]
      simp only [own_wd, List.getElem_map, List.getElem_range]
      by_cases q : j < 2 * i
      · rw [if_pos q, if_pos (by omega)]
      · rw [if_neg q, if_neg (by omega)]
theorem own_wdn (cs : List Int32) : own_wd cs cs.length = wideBytes cs := by
  refine List.ext_getElem (by rw [own_wdlen, own_widelen]) fun j h1 h2 => ?_
  have hj : j < 2 * cs.length := by rw [own_wdlen] at h1; exact h1
  simp only [own_wd, List.getElem_map, List.getElem_range]
  rw [if_pos hj, List.getD_eq_getElem?_getD, List.getElem?_eq_getElem h2] <;> rfl
theorem own_widetake : ∀ (cs : List Int32) (e : Nat), (wideBytes cs).take (2 * e) = wideBytes (cs.take e)
  | [], e => by simp [wideBytes]
  | c :: cs, 0 => by simp [wideBytes]
  | c :: cs, e + 1 => by
    have q := own_widetake cs e
    have h : 2 * (e + 1) = 2 * e + 1 + 1 := by omega
    rw [h]
    show Value.int (lo8 c) :: Value.int (hi8 c) :: (wideBytes cs).take (2 * e) = Value.int (lo8 c) :: Value.int (hi8 c) :: wideBytes (cs.take e)
    rw [q]
theorem own_mem {cs : List Int32} {P : Int32 → Prop} (h : ∀ c ∈ cs, P c) {i : Nat} (hi : i < cs.length) : P (cs.getD i 0) := by
  rw [List.getD_eq_getElem?_getD, List.getElem?_eq_getElem hi]; exact h _ (List.getElem_mem hi)
theorem own_mb {cs : List Int32} (h : ∀ c ∈ cs, ¬ c < 0 ∧ ¬ (65535 : Int32) < c) {i : Nat} (hi : i < cs.length) : ¬ cs.getD i 0 < 0 ∧ ¬ (65535 : Int32) < cs.getD i 0 := own_mem (P := fun c => ¬ c < 0 ∧ ¬ (65535 : Int32) < c) h hi
theorem own_ma {cs : List Int32} (h : ∀ c ∈ cs, ¬ (255 : Int32) < c) {i : Nat} (hi : i < cs.length) : ¬ (255 : Int32) < cs.getD i 0 := own_mem (P := fun c => ¬ (255 : Int32) < c) h hi
theorem own_F0 {cs : List Int32} (h : own_F cs cs.length) : CodA cs 0 (Int32.ofNat cs.length) (own_low cs cs.length) := by
  refine Or.inl ⟨rfl, rfl, own_lown cs, fun c hc => ?_⟩
  obtain ⟨j, hj, rfl⟩ := List.getElem_of_mem hc
  have q := h.2.1 j hj
  rw [List.getD_eq_getElem?_getD, List.getElem?_eq_getElem hj] at q
  exact q
theorem own_F1 {cs : List Int32} {k : Nat} (h : own_F cs k) (hk : ¬ k = cs.length) : CodA cs 1 (Int32.ofNat (2 * cs.length)) (wideBytes cs) := by
  have hl : k < cs.length := by have := h.1; omega
  refine Or.inr ⟨rfl, rfl, rfl, cs[k], List.getElem_mem hl, ?_⟩
  have q := h.2.2 hl
  rw [List.getD_eq_getElem?_getD, List.getElem?_eq_getElem hl] at q
  exact q
theorem own_cdr0 {n : Nat} (h : n ≤ 103) : ((((Int32.ofNat n - Int32.ofNat n).toUInt32 >>> ((31 : Int32) &&& 31).toUInt32).toInt32).toInt8.toInt32) = 0 := by
  have t : ∀ k : Fin 104, ((((Int32.ofNat k.val - Int32.ofNat k.val).toUInt32 >>> ((31 : Int32) &&& 31).toUInt32).toInt32).toInt8.toInt32) = 0 := by decide +kernel
  exact t ⟨n, by omega⟩
theorem own_cdr1 {n : Nat} (h : n ≤ 103) (h0 : 0 < n) : ((((Int32.ofNat n - Int32.ofNat (2 * n)).toUInt32 >>> ((31 : Int32) &&& 31).toUInt32).toInt32).toInt8.toInt32) = 1 := by
  have t : ∀ k : Fin 103, ((((Int32.ofNat (k.val + 1) - Int32.ofNat (2 * (k.val + 1))).toUInt32 >>> ((31 : Int32) &&& 31).toUInt32).toInt32).toInt8.toInt32) = 1 := by decide +kernel
  obtain ⟨k, rfl⟩ : ∃ k, n = k + 1 := ⟨n - 1, by omega⟩
  exact t ⟨k, by omega⟩
/-- a String of the chars cs -/
def own_S (Z : State) (h : Heap) (a : Addr) (cs : List Int32) : Prop := Exa Z h a "java/lang/String" ∧ (∃ (t : Addr) (k : ClassId) (cd N2 : Int32) (vs : List Value), Fld Z h a "java/lang/String" "coder" "B" (.int cd) ∧ Fld Z h a "java/lang/String" "value" "[B" (.ref t) ∧ Arv Z h t k .byte N2 vs (.int 0) ∧ CodA cs cd N2 vs) ∧ (∀ c ∈ cs, ¬ c < 0 ∧ ¬ (65535 : Int32) < c) ∧ cs.length ≤ 103
theorem own_S.keep0 {Z : State} {h h' : Heap} {a : Addr} {cs : List Int32} (F : own_S Z h a cs) (K : Keep h h' []) : own_S Z h' a cs := by
  obtain ⟨E, ⟨t, k, cd, N2, vs, C, V, A, q⟩, r⟩ := F
  exact ⟨E.keep K, ⟨t, k, cd, N2, vs, C.keep K nin0, V.keep K nin0, A.keep K nin0, q⟩, r⟩
theorem own_cp {vs : List Value} {i : Nat} (h : i ≤ vs.length) (hl : i ≤ 1000) : (List.replicate i (Value.int 0)).take ((0 : Int32).toNatClampNeg) ++ ((List.range (Int32.ofNat i).toNatClampNeg).map fun j => vs.getD ((0 : Int32).toNatClampNeg + j) (.int 0)) ++ (List.replicate i (Value.int 0)).drop ((0 : Int32).toNatClampNeg + (Int32.ofNat i).toNatClampNeg) = vs.take i := by
  have e0 : (0 : Int32).toNatClampNeg = 0 := by decide
  rw [e0, own_clamp (by omega)]
  have hd : (List.replicate i (Value.int 0)).drop (0 + i) = [] := List.drop_eq_nil_of_le (by rw [List.length_replicate]; omega)
  rw [hd, List.append_nil, List.take_zero, List.nil_append]
  refine List.ext_getElem (by rw [List.length_map, List.length_range, List.length_take]; omega) fun j h1 h2 => ?_
  have hj : j < vs.length := by rw [List.length_take] at h2; omega
  simp only [List.getElem_map, List.getElem_range, List.getElem_take, Nat.zero_add]
  rw [List.getD_eq_getElem?_getD, List.getElem?_eq_getElem hj] <;> rfl

theorem d1_0 : decode method_2_code 0 = .ok (.lload_n 0, 1) := by decide +kernel
theorem d1_1 : decode method_2_code 1 = .ok (.ldc2_w 7, 3) := by decide +kernel
theorem d1_4 : decode method_2_code 4 = .ok (.land, 1) := by decide +kernel
theorem d1_5 : decode method_2_code 5 = .ok (.l2i, 1) := by decide +kernel
theorem d1_6 : decode method_2_code 6 = .ok (.istore_n 2, 1) := by decide +kernel
theorem d1_7 : decode method_2_code 7 = .ok (.lload_n 0, 1) := by decide +kernel
theorem d1_8 : decode method_2_code 8 = .ok (.iconst 2, 1) := by decide +kernel
theorem d1_9 : decode method_2_code 9 = .ok (.lushr, 1) := by decide +kernel
theorem d1_10 : decode method_2_code 10 = .ok (.ldc2_w 9, 3) := by decide +kernel
theorem d1_13 : decode method_2_code 13 = .ok (.land, 1) := by decide +kernel
theorem d1_14 : decode method_2_code 14 = .ok (.l2i, 1) := by decide +kernel
theorem d1_15 : decode method_2_code 15 = .ok (.istore_n 3, 1) := by decide +kernel
theorem d1_16 : decode method_2_code 16 = .ok (.iload_n 2, 1) := by decide +kernel
theorem d1_17 : decode method_2_code 17 = .ok (.iconst 1, 1) := by decide +kernel
theorem d1_18 : decode method_2_code 18 = .ok (.if_icmp .ne 13, 3) := by decide +kernel
theorem d1_21 : decode method_2_code 21 = .ok (.ldc 11, 2) := by decide +kernel
theorem d1_23 : decode method_2_code 23 = .ok (.iload_n 3, 1) := by decide +kernel
theorem d1_24 : decode method_2_code 24 = .ok (.sipush 1023, 3) := by decide +kernel
theorem d1_27 : decode method_2_code 27 = .ok (.iand, 1) := by decide +kernel
theorem d1_28 : decode method_2_code 28 = .ok (.ior, 1) := by decide +kernel
theorem d1_29 : decode method_2_code 29 = .ok (.i2c, 1) := by decide +kernel
theorem d1_30 : decode method_2_code 30 = .ok (.ireturn, 1) := by decide +kernel
theorem d1_31 : decode method_2_code 31 = .ok (.iload_n 2, 1) := by decide +kernel
theorem d1_32 : decode method_2_code 32 = .ok (.iconst 2, 1) := by decide +kernel
theorem d1_33 : decode method_2_code 33 = .ok (.if_icmp .ne 13, 3) := by decide +kernel
theorem d1_36 : decode method_2_code 36 = .ok (.ldc 12, 2) := by decide +kernel
theorem d1_38 : decode method_2_code 38 = .ok (.iload_n 3, 1) := by decide +kernel
theorem d1_39 : decode method_2_code 39 = .ok (.sipush 1023, 3) := by decide +kernel
theorem d1_42 : decode method_2_code 42 = .ok (.iand, 1) := by decide +kernel
theorem d1_43 : decode method_2_code 43 = .ok (.ior, 1) := by decide +kernel
theorem d1_44 : decode method_2_code 44 = .ok (.i2c, 1) := by decide +kernel
theorem d1_45 : decode method_2_code 45 = .ok (.ireturn, 1) := by decide +kernel
theorem d1_46 : decode method_2_code 46 = .ok (.iload_n 2, 1) := by decide +kernel
theorem d1_47 : decode method_2_code 47 = .ok (.iconst 3, 1) := by decide +kernel
theorem d1_48 : decode method_2_code 48 = .ok (.if_icmp .ne 10, 3) := by decide +kernel
theorem d1_51 : decode method_2_code 51 = .ok (.iload_n 3, 1) := by decide +kernel
theorem d1_52 : decode method_2_code 52 = .ok (.sipush 255, 3) := by decide +kernel
theorem d1_55 : decode method_2_code 55 = .ok (.iand, 1) := by decide +kernel
theorem d1_56 : decode method_2_code 56 = .ok (.i2c, 1) := by decide +kernel
theorem d1_57 : decode method_2_code 57 = .ok (.ireturn, 1) := by decide +kernel
theorem d1_58 : decode method_2_code 58 = .ok (.iload_n 3, 1) := by decide +kernel
theorem d1_59 : decode method_2_code 59 = .ok (.i2c, 1) := by decide +kernel
theorem d1_60 : decode method_2_code 60 = .ok (.ireturn, 1) := by decide +kernel
theorem pn_com_example_tender_tender_mailbox_MailAbstractOfPinLaw : plainName "com/example/tender/tender/mailbox/MailAbstractOfPinLaw" = true := by first | (simp [plainName, overriddenIn]; done) | decide +kernel
theorem ef_mk (m : MethodId) (q1 : Int64) : entryFrame m #[(.long q1)] 4 = mkF m 0 #[.val (.long q1), .second, .unset, .unset] [] := by first | (simp [entryFrame, mkF, argsToLocals, Value.category]; done) | rfl
def Qmk (Z : State) (q1 : Int64) (h0 : Heap) (n0 : Nat) (v : Option Value) (h : Heap) (L : List Loc) : Prop := ∃ z : Int32, v = some (.int z) ∧ Fr n0 L ∧ h = h0 ∧ (¬ z < 0 ∧ ¬ (65535 : Int32) < z)
theorem rmmk (l : Launch) (Z : State) (a0 : Array Value) (hw : ∀ d ∈ tables_1, d.before a0 Z = true) (ws : List Jvm.Cond) (q1 : Int64) (h0 : Heap) (n0 : Nat) (Z0 : n0 ≤ h0.size) :
    MetFree l (⟨"com/example/tender/tender/mailbox/MailAbstractOfPinLaw", "mk", "(J)C"⟩ : MethodName) (head1 (Jvm.Cond.code (⟨"com/example/tender/tender/mailbox/MailAbstractOfPinLaw", "mk", "(J)C"⟩ : MethodName) method_2_code 4 (some .char) :: ws) ({ frames := 0, cells := 0, slots := 0, locals := 0 } : Room)) (fun a U => a = #[(.long q1)] ∧ Z.Warmed39 U.vm ∧ U.heap = h0) (fun _ _ _ _ _ => True) (fun _ U o U' => ∃ v L, o = .returned v ∧ Qmk Z q1 h0 n0 v U'.heap L ∧ FrameEnd U o U' L ({ frames := 0, cells := 0, slots := 0, locals := 0 } : Room).cells ({ frames := 0, cells := 0, slots := 0, locals := 0 } : Room).slots) := by
  refine MetFree.of_bodySF (plainFor_of_name pn_com_example_tender_tender_mailbox_MailAbstractOfPinLaw) hisR ?_
  intro p e s m args below meth c s₁ Bd hml0 hP hK
  obtain ⟨rfl, hZ, hH0⟩ := hP
  have hx := Bd.exec
  have hby := Bd.bytes
  have hml : c.maxLocals = 4 := hml0
  have hown : s.vm.findClass "com/example/tender/tender/mailbox/MailAbstractOfPinLaw" = some m.cls := findClass_of_methodNamed Bd.named
  have hnm := (name_of_methodNamed Bd.named Bd.method).1
  have X0 : Stand p l e ({ frames := 0, cells := 0, slots := 0, locals := 0 } : Room) s m #[(.long q1)] below meth c s₁ [] 0 0 := Stand.of_body Bd
  have e0 : s₁.heap = h0 := by rw [← hH0, Bd.state]; rfl
  have N0 := Fr.nil n0
  refine own_cast (ef_mk m q1) ?_
  show own_Go p e below (fun o U' => ∃ v L, o = .returned v ∧ Qmk Z q1 h0 n0 v U'.heap L ∧ FrameEnd s o U' L ({ frames := 0, cells := 0, slots := 0, locals := 0 } : Room).cells ({ frames := 0, cells := 0, slots := 0, locals := 0 } : Room).slots) (s₁.setTop (mkF m 0 #[.val (.long q1), .second, .unset, .unset] []))
  refine own_via (fun _ => XS.lloadN X0.here hx rfl (hb hby d1_0) rfl) ?_
  show own_Go p e below _ (s₁.setTop (mkF m 1 #[.val (.long q1), .second, .unset, .unset] [(.long q1)]))
  refine own_via (X0.ldc2Long hx hown (mvT hZ (own_w hw 4 rfl)) (g := (mkF m 1 #[.val (.long q1), .second, .unset, .unset] [(.long q1)])) rfl (hb hby d1_1)) ?_
  show own_Go p e below _ (s₁.setTop (mkF m 4 #[.val (.long q1), .second, .unset, .unset] [(.long (3 : Int64)), (.long q1)]))
  refine own_via (fun _ => XS.land X0.here hx rfl (hb hby d1_4) rfl) ?_
  show own_Go p e below _ (s₁.setTop (mkF m 5 #[.val (.long q1), .second, .unset, .unset] [(.long (q1 &&& (3 : Int64)))]))
  refine own_via (fun _ => XS.l2i X0.here hx rfl (hb hby d1_5) rfl) ?_
  show own_Go p e below _ (s₁.setTop (mkF m 6 #[.val (.long q1), .second, .unset, .unset] [(.int ((q1 &&& (3 : Int64)).toInt32))]))
  refine own_via (fun _ => XS.istoreN X0.here hx rfl (hb hby d1_6) rfl (l' := #[.val (.long q1), .second, .val (.int ((q1 &&& (3 : Int64)).toInt32)), .unset]) rfl) ?_
  show own_Go p e below _ (s₁.setTop (mkF m 7 #[.val (.long q1), .second, .val (.int ((q1 &&& (3 : Int64)).toInt32)), .unset] []))
  refine own_via (fun _ => XS.lloadN X0.here hx rfl (hb hby d1_7) rfl) ?_
  show own_Go p e below _ (s₁.setTop (mkF m 8 #[.val (.long q1), .second, .val (.int ((q1 &&& (3 : Int64)).toInt32)), .unset] [(.long q1)]))
  refine own_iconst X0 hx (hb hby d1_8) (q := 9) (z := (2 : Int32)) rfl rfl ?_
  refine own_via (fun _ => XS.lushr X0.here hx rfl (hb hby d1_9) rfl) ?_
  show own_Go p e below _ (s₁.setTop (mkF m 10 #[.val (.long q1), .second, .val (.int ((q1 &&& (3 : Int64)).toInt32)), .unset] [(.long ((q1.toUInt64 >>> ((2 : Int32) &&& 0x3f).toInt64.toUInt64).toInt64))]))
  refine own_via (X0.ldc2Long hx hown (mvT hZ (own_w hw 5 rfl)) (g := (mkF m 10 #[.val (.long q1), .second, .val (.int ((q1 &&& (3 : Int64)).toInt32)), .unset] [(.long ((q1.toUInt64 >>> ((2 : Int32) &&& 0x3f).toInt64.toUInt64).toInt64))])) rfl (hb hby d1_10)) ?_
  show own_Go p e below _ (s₁.setTop (mkF m 13 #[.val (.long q1), .second, .val (.int ((q1 &&& (3 : Int64)).toInt32)), .unset] [(.long (65535 : Int64)), (.long ((q1.toUInt64 >>> ((2 : Int32) &&& 0x3f).toInt64.toUInt64).toInt64))]))
  refine own_via (fun _ => XS.land X0.here hx rfl (hb hby d1_13) rfl) ?_
  show own_Go p e below _ (s₁.setTop (mkF m 14 #[.val (.long q1), .second, .val (.int ((q1 &&& (3 : Int64)).toInt32)), .unset] [(.long (((q1.toUInt64 >>> ((2 : Int32) &&& 0x3f).toInt64.toUInt64).toInt64) &&& (65535 : Int64)))]))
  refine own_via (fun _ => XS.l2i X0.here hx rfl (hb hby d1_14) rfl) ?_
  show own_Go p e below _ (s₁.setTop (mkF m 15 #[.val (.long q1), .second, .val (.int ((q1 &&& (3 : Int64)).toInt32)), .unset] [(.int ((((q1.toUInt64 >>> ((2 : Int32) &&& 0x3f).toInt64.toUInt64).toInt64) &&& (65535 : Int64)).toInt32))]))
  refine own_via (fun _ => XS.istoreN X0.here hx rfl (hb hby d1_15) rfl (l' := #[.val (.long q1), .second, .val (.int ((q1 &&& (3 : Int64)).toInt32)), .val (.int ((((q1.toUInt64 >>> ((2 : Int32) &&& 0x3f).toInt64.toUInt64).toInt64) &&& (65535 : Int64)).toInt32))]) rfl) ?_
  show own_Go p e below _ (s₁.setTop (mkF m 16 #[.val (.long q1), .second, .val (.int ((q1 &&& (3 : Int64)).toInt32)), .val (.int ((((q1.toUInt64 >>> ((2 : Int32) &&& 0x3f).toInt64.toUInt64).toInt64) &&& (65535 : Int64)).toInt32))] []))
  refine own_iloadN X0 hx (hb hby d1_16) (q := 17) rfl rfl ?_
  refine own_iconst X0 hx (hb hby d1_17) (q := 18) (z := (1 : Int32)) rfl rfl ?_
  by_cases h1 : ((q1 &&& (3 : Int64)).toInt32) = (1 : Int32)
  · refine own_via (fun _ => XS.icmpNo X0.here hx rfl (hb hby d1_18) rfl (teq (h1 : ((q1 &&& (3 : Int64)).toInt32) = (1 : Int32))).2) ?_
    show own_Go p e below _ (s₁.setTop (mkF m 21 #[.val (.long q1), .second, .val (.int ((q1 &&& (3 : Int64)).toInt32)), .val (.int ((((q1.toUInt64 >>> ((2 : Int32) &&& 0x3f).toInt64.toUInt64).toInt64) &&& (65535 : Int64)).toInt32))] []))
    refine own_via (X0.ldcInt hx hown (mvT hZ (own_w hw 6 rfl)) (g := (mkF m 21 #[.val (.long q1), .second, .val (.int ((q1 &&& (3 : Int64)).toInt32)), .val (.int ((((q1.toUInt64 >>> ((2 : Int32) &&& 0x3f).toInt64.toUInt64).toInt64) &&& (65535 : Int64)).toInt32))] [])) rfl (hb hby d1_21)) ?_
    show own_Go p e below _ (s₁.setTop (mkF m 23 #[.val (.long q1), .second, .val (.int ((q1 &&& (3 : Int64)).toInt32)), .val (.int ((((q1.toUInt64 >>> ((2 : Int32) &&& 0x3f).toInt64.toUInt64).toInt64) &&& (65535 : Int64)).toInt32))] [(.int (55296 : Int32))]))
    refine own_iloadN X0 hx (hb hby d1_23) (q := 24) rfl rfl ?_
    refine own_sipush X0 hx (hb hby d1_24) (q := 27) (z := (1023 : Int32)) rfl rfl ?_
    refine own_via (fun _ => XS.iand X0.here hx rfl (hb hby d1_27) rfl) ?_
    show own_Go p e below _ (s₁.setTop (mkF m 28 #[.val (.long q1), .second, .val (.int ((q1 &&& (3 : Int64)).toInt32)), .val (.int ((((q1.toUInt64 >>> ((2 : Int32) &&& 0x3f).toInt64.toUInt64).toInt64) &&& (65535 : Int64)).toInt32))] [(.int (((((q1.toUInt64 >>> ((2 : Int32) &&& 0x3f).toInt64.toUInt64).toInt64) &&& (65535 : Int64)).toInt32) &&& (1023 : Int32))), (.int (55296 : Int32))]))
    refine own_via (fun _ => XS.ior X0.here hx rfl (hb hby d1_28) rfl) ?_
    show own_Go p e below _ (s₁.setTop (mkF m 29 #[.val (.long q1), .second, .val (.int ((q1 &&& (3 : Int64)).toInt32)), .val (.int ((((q1.toUInt64 >>> ((2 : Int32) &&& 0x3f).toInt64.toUInt64).toInt64) &&& (65535 : Int64)).toInt32))] [(.int ((55296 : Int32) ||| (((((q1.toUInt64 >>> ((2 : Int32) &&& 0x3f).toInt64.toUInt64).toInt64) &&& (65535 : Int64)).toInt32) &&& (1023 : Int32))))]))
    refine own_via (fun _ => XS.i2c X0.here hx rfl (hb hby d1_29) rfl) ?_
    show own_Go p e below _ (s₁.setTop (mkF m 30 #[.val (.long q1), .second, .val (.int ((q1 &&& (3 : Int64)).toInt32)), .val (.int ((((q1.toUInt64 >>> ((2 : Int32) &&& 0x3f).toInt64.toUInt64).toInt64) &&& (65535 : Int64)).toInt32))] [(.int (((55296 : Int32) ||| (((((q1.toUInt64 >>> ((2 : Int32) &&& 0x3f).toInt64.toUInt64).toInt64) &&& (65535 : Int64)).toInt32) &&& (1023 : Int32))).toUInt32.toUInt16.toUInt32.toInt32))]))
    exact own_retv X0 Bd.notSynchronized hx Bd.returns (own_narV (own_c16 _)) (Or.inl ⟨rfl, (by simp), _, rfl⟩) (hb hby d1_30) (by decide) (by decide) (by rw [e0]; exact ⟨(((55296 : Int32) ||| (((((q1.toUInt64 >>> ((2 : Int32) &&& 0x3f).toInt64.toUInt64).toInt64) &&& (65535 : Int64)).toInt32) &&& (1023 : Int32))).toUInt32.toUInt16.toUInt32.toInt32), rfl, N0, rfl, own_c16 _⟩)
  · refine own_via (fun _ => XS.icmpYes X0.here hx rfl (pc0 := 18) (pc' := 31) rfl (hb hby d1_18) rfl (feq (h1 : ¬ (((q1 &&& (3 : Int64)).toInt32) = (1 : Int32)))).2 (by decide) (by decide)) ?_
    show own_Go p e below _ (s₁.setTop (mkF m 31 #[.val (.long q1), .second, .val (.int ((q1 &&& (3 : Int64)).toInt32)), .val (.int ((((q1.toUInt64 >>> ((2 : Int32) &&& 0x3f).toInt64.toUInt64).toInt64) &&& (65535 : Int64)).toInt32))] []))
    refine own_iloadN X0 hx (hb hby d1_31) (q := 32) rfl rfl ?_
    refine own_iconst X0 hx (hb hby d1_32) (q := 33) (z := (2 : Int32)) rfl rfl ?_
    by_cases h2 : ((q1 &&& (3 : Int64)).toInt32) = (2 : Int32)
    · refine own_via (fun _ => XS.icmpNo X0.here hx rfl (hb hby d1_33) rfl (teq (h2 : ((q1 &&& (3 : Int64)).toInt32) = (2 : Int32))).2) ?_
      show own_Go p e below _ (s₁.setTop (mkF m 36 #[.val (.long q1), .second, .val (.int ((q1 &&& (3 : Int64)).toInt32)), .val (.int ((((q1.toUInt64 >>> ((2 : Int32) &&& 0x3f).toInt64.toUInt64).toInt64) &&& (65535 : Int64)).toInt32))] []))
      refine own_via (X0.ldcInt hx hown (mvT hZ (own_w hw 7 rfl)) (g := (mkF m 36 #[.val (.long q1), .second, .val (.int ((q1 &&& (3 : Int64)).toInt32)), .val (.int ((((q1.toUInt64 >>> ((2 : Int32) &&& 0x3f).toInt64.toUInt64).toInt64) &&& (65535 : Int64)).toInt32))] [])) rfl (hb hby d1_36)) ?_
      show own_Go p e below _ (s₁.setTop (mkF m 38 #[.val (.long q1), .second, .val (.int ((q1 &&& (3 : Int64)).toInt32)), .val (.int ((((q1.toUInt64 >>> ((2 : Int32) &&& 0x3f).toInt64.toUInt64).toInt64) &&& (65535 : Int64)).toInt32))] [(.int (56320 : Int32))]))
      refine own_iloadN X0 hx (hb hby d1_38) (q := 39) rfl rfl ?_
      refine own_sipush X0 hx (hb hby d1_39) (q := 42) (z := (1023 : Int32)) rfl rfl ?_
      refine own_via (fun _ => XS.iand X0.here hx rfl (hb hby d1_42) rfl) ?_
      show own_Go p e below _ (s₁.setTop (mkF m 43 #[.val (.long q1), .second, .val (.int ((q1 &&& (3 : Int64)).toInt32)), .val (.int ((((q1.toUInt64 >>> ((2 : Int32) &&& 0x3f).toInt64.toUInt64).toInt64) &&& (65535 : Int64)).toInt32))] [(.int (((((q1.toUInt64 >>> ((2 : Int32) &&& 0x3f).toInt64.toUInt64).toInt64) &&& (65535 : Int64)).toInt32) &&& (1023 : Int32))), (.int (56320 : Int32))]))
      refine own_via (fun _ => XS.ior X0.here hx rfl (hb hby d1_43) rfl) ?_
      show own_Go p e below _ (s₁.setTop (mkF m 44 #[.val (.long q1), .second, .val (.int ((q1 &&& (3 : Int64)).toInt32)), .val (.int ((((q1.toUInt64 >>> ((2 : Int32) &&& 0x3f).toInt64.toUInt64).toInt64) &&& (65535 : Int64)).toInt32))] [(.int ((56320 : Int32) ||| (((((q1.toUInt64 >>> ((2 : Int32) &&& 0x3f).toInt64.toUInt64).toInt64) &&& (65535 : Int64)).toInt32) &&& (1023 : Int32))))]))
      refine own_via (fun _ => XS.i2c X0.here hx rfl (hb hby d1_44) rfl) ?_
      show own_Go p e below _ (s₁.setTop (mkF m 45 #[.val (.long q1), .second, .val (.int ((q1 &&& (3 : Int64)).toInt32)), .val (.int ((((q1.toUInt64 >>> ((2 : Int32) &&& 0x3f).toInt64.toUInt64).toInt64) &&& (65535 : Int64)).toInt32))] [(.int (((56320 : Int32) ||| (((((q1.toUInt64 >>> ((2 : Int32) &&& 0x3f).toInt64.toUInt64).toInt64) &&& (65535 : Int64)).toInt32) &&& (1023 : Int32))).toUInt32.toUInt16.toUInt32.toInt32))]))
      exact own_retv X0 Bd.notSynchronized hx Bd.returns (own_narV (own_c16 _)) (Or.inl ⟨rfl, (by simp), _, rfl⟩) (hb hby d1_45) (by decide) (by decide) (by rw [e0]; exact ⟨(((56320 : Int32) ||| (((((q1.toUInt64 >>> ((2 : Int32) &&& 0x3f).toInt64.toUInt64).toInt64) &&& (65535 : Int64)).toInt32) &&& (1023 : Int32))).toUInt32.toUInt16.toUInt32.toInt32), rfl, N0, rfl, own_c16 _⟩)
    · refine own_via (fun _ => XS.icmpYes X0.here hx rfl (pc0 := 33) (pc' := 46) rfl (hb hby d1_33) rfl (feq (h2 : ¬ (((q1 &&& (3 : Int64)).toInt32) = (2 : Int32)))).2 (by decide) (by decide)) ?_
      show own_Go p e below _ (s₁.setTop (mkF m 46 #[.val (.long q1), .second, .val (.int ((q1 &&& (3 : Int64)).toInt32)), .val (.int ((((q1.toUInt64 >>> ((2 : Int32) &&& 0x3f).toInt64.toUInt64).toInt64) &&& (65535 : Int64)).toInt32))] []))
      refine own_iloadN X0 hx (hb hby d1_46) (q := 47) rfl rfl ?_
      refine own_iconst X0 hx (hb hby d1_47) (q := 48) (z := (3 : Int32)) rfl rfl ?_
      by_cases h3 : ((q1 &&& (3 : Int64)).toInt32) = (3 : Int32)
      · refine own_via (fun _ => XS.icmpNo X0.here hx rfl (hb hby d1_48) rfl (teq (h3 : ((q1 &&& (3 : Int64)).toInt32) = (3 : Int32))).2) ?_
        show own_Go p e below _ (s₁.setTop (mkF m 51 #[.val (.long q1), .second, .val (.int ((q1 &&& (3 : Int64)).toInt32)), .val (.int ((((q1.toUInt64 >>> ((2 : Int32) &&& 0x3f).toInt64.toUInt64).toInt64) &&& (65535 : Int64)).toInt32))] []))
        refine own_iloadN X0 hx (hb hby d1_51) (q := 52) rfl rfl ?_
        refine own_sipush X0 hx (hb hby d1_52) (q := 55) (z := (255 : Int32)) rfl rfl ?_
        refine own_via (fun _ => XS.iand X0.here hx rfl (hb hby d1_55) rfl) ?_
        show own_Go p e below _ (s₁.setTop (mkF m 56 #[.val (.long q1), .second, .val (.int ((q1 &&& (3 : Int64)).toInt32)), .val (.int ((((q1.toUInt64 >>> ((2 : Int32) &&& 0x3f).toInt64.toUInt64).toInt64) &&& (65535 : Int64)).toInt32))] [(.int (((((q1.toUInt64 >>> ((2 : Int32) &&& 0x3f).toInt64.toUInt64).toInt64) &&& (65535 : Int64)).toInt32) &&& (255 : Int32)))]))
        refine own_via (fun _ => XS.i2c X0.here hx rfl (hb hby d1_56) rfl) ?_
        show own_Go p e below _ (s₁.setTop (mkF m 57 #[.val (.long q1), .second, .val (.int ((q1 &&& (3 : Int64)).toInt32)), .val (.int ((((q1.toUInt64 >>> ((2 : Int32) &&& 0x3f).toInt64.toUInt64).toInt64) &&& (65535 : Int64)).toInt32))] [(.int ((((((q1.toUInt64 >>> ((2 : Int32) &&& 0x3f).toInt64.toUInt64).toInt64) &&& (65535 : Int64)).toInt32) &&& (255 : Int32)).toUInt32.toUInt16.toUInt32.toInt32))]))
        exact own_retv X0 Bd.notSynchronized hx Bd.returns (own_narV (own_c16 _)) (Or.inl ⟨rfl, (by simp), _, rfl⟩) (hb hby d1_57) (by decide) (by decide) (by rw [e0]; exact ⟨((((((q1.toUInt64 >>> ((2 : Int32) &&& 0x3f).toInt64.toUInt64).toInt64) &&& (65535 : Int64)).toInt32) &&& (255 : Int32)).toUInt32.toUInt16.toUInt32.toInt32), rfl, N0, rfl, own_c16 _⟩)
      · refine own_via (fun _ => XS.icmpYes X0.here hx rfl (pc0 := 48) (pc' := 58) rfl (hb hby d1_48) rfl (feq (h3 : ¬ (((q1 &&& (3 : Int64)).toInt32) = (3 : Int32)))).2 (by decide) (by decide)) ?_
        show own_Go p e below _ (s₁.setTop (mkF m 58 #[.val (.long q1), .second, .val (.int ((q1 &&& (3 : Int64)).toInt32)), .val (.int ((((q1.toUInt64 >>> ((2 : Int32) &&& 0x3f).toInt64.toUInt64).toInt64) &&& (65535 : Int64)).toInt32))] []))
        refine own_iloadN X0 hx (hb hby d1_58) (q := 59) rfl rfl ?_
        refine own_via (fun _ => XS.i2c X0.here hx rfl (hb hby d1_59) rfl) ?_
        show own_Go p e below _ (s₁.setTop (mkF m 60 #[.val (.long q1), .second, .val (.int ((q1 &&& (3 : Int64)).toInt32)), .val (.int ((((q1.toUInt64 >>> ((2 : Int32) &&& 0x3f).toInt64.toUInt64).toInt64) &&& (65535 : Int64)).toInt32))] [(.int (((((q1.toUInt64 >>> ((2 : Int32) &&& 0x3f).toInt64.toUInt64).toInt64) &&& (65535 : Int64)).toInt32).toUInt32.toUInt16.toUInt32.toInt32))]))
        exact own_retv X0 Bd.notSynchronized hx Bd.returns (own_narV (own_c16 _)) (Or.inl ⟨rfl, (by simp), _, rfl⟩) (hb hby d1_60) (by decide) (by decide) (by rw [e0]; exact ⟨(((((q1.toUInt64 >>> ((2 : Int32) &&& 0x3f).toInt64.toUInt64).toInt64) &&& (65535 : Int64)).toInt32).toUInt32.toUInt16.toUInt32.toInt32), rfl, N0, rfl, own_c16 _⟩)
theorem d2_0 : decode method_3_code 0 = .ok (.iload_n 0, 1) := by decide +kernel
theorem d2_1 : decode method_3_code 1 = .ok (.ldc 11, 2) := by decide +kernel
theorem d2_3 : decode method_3_code 3 = .ok (.if_icmp .lt 13, 3) := by decide +kernel
theorem d2_6 : decode method_3_code 6 = .ok (.iload_n 0, 1) := by decide +kernel
theorem d2_7 : decode method_3_code 7 = .ok (.ldc 13, 2) := by decide +kernel
theorem d2_9 : decode method_3_code 9 = .ok (.if_icmp .gt 7, 3) := by decide +kernel
theorem d2_12 : decode method_3_code 12 = .ok (.iconst 1, 1) := by decide +kernel
theorem d2_13 : decode method_3_code 13 = .ok (.goto 4, 3) := by decide +kernel
theorem d2_16 : decode method_3_code 16 = .ok (.iconst 0, 1) := by decide +kernel
theorem d2_17 : decode method_3_code 17 = .ok (.ireturn, 1) := by decide +kernel
theorem ef_high (m : MethodId) (p1 : Int32) : entryFrame m #[(.int p1)] 1 = mkF m 0 #[.val (.int p1)] [] := by first | (simp [entryFrame, mkF, argsToLocals, Value.category]; done) | rfl
def Qhigh (Z : State) (p1 : Int32) (h0 : Heap) (n0 : Nat) (v : Option Value) (h : Heap) (L : List Loc) : Prop := ∃ z : Int32, v = some (.int z) ∧ Fr n0 L ∧ h = h0 ∧ (z = if own_hi p1 then 1 else 0)
theorem rmhigh (l : Launch) (Z : State) (a0 : Array Value) (hw : ∀ d ∈ tables_1, d.before a0 Z = true) (ws : List Jvm.Cond) (p1 : Int32) (h0 : Heap) (n0 : Nat) (Z0 : n0 ≤ h0.size) :
    MetFree l (⟨"com/example/tender/tender/mailbox/MailAbstractOfPinLaw", "high", "(C)Z"⟩ : MethodName) (head1 (Jvm.Cond.code (⟨"com/example/tender/tender/mailbox/MailAbstractOfPinLaw", "high", "(C)Z"⟩ : MethodName) method_3_code 1 (some .boolean) :: ws) ({ frames := 0, cells := 0, slots := 0, locals := 0 } : Room)) (fun a U => a = #[(.int p1)] ∧ Z.Warmed39 U.vm ∧ U.heap = h0) (fun _ _ _ _ _ => True) (fun _ U o U' => ∃ v L, o = .returned v ∧ Qhigh Z p1 h0 n0 v U'.heap L ∧ FrameEnd U o U' L ({ frames := 0, cells := 0, slots := 0, locals := 0 } : Room).cells ({ frames := 0, cells := 0, slots := 0, locals := 0 } : Room).slots) := by
  refine MetFree.of_bodySF (plainFor_of_name pn_com_example_tender_tender_mailbox_MailAbstractOfPinLaw) hisR ?_
  intro p e s m args below meth c s₁ Bd hml0 hP hK
  obtain ⟨rfl, hZ, hH0⟩ := hP
  have hx := Bd.exec
  have hby := Bd.bytes
  have hml : c.maxLocals = 1 := hml0
  have hown : s.vm.findClass "com/example/tender/tender/mailbox/MailAbstractOfPinLaw" = some m.cls := findClass_of_methodNamed Bd.named
  have hnm := (name_of_methodNamed Bd.named Bd.method).1
  have X0 : Stand p l e ({ frames := 0, cells := 0, slots := 0, locals := 0 } : Room) s m #[(.int p1)] below meth c s₁ [] 0 0 := Stand.of_body Bd
  have e0 : s₁.heap = h0 := by rw [← hH0, Bd.state]; rfl
  have N0 := Fr.nil n0
  refine own_cast (ef_high m p1) ?_
  show own_Go p e below (fun o U' => ∃ v L, o = .returned v ∧ Qhigh Z p1 h0 n0 v U'.heap L ∧ FrameEnd s o U' L ({ frames := 0, cells := 0, slots := 0, locals := 0 } : Room).cells ({ frames := 0, cells := 0, slots := 0, locals := 0 } : Room).slots) (s₁.setTop (mkF m 0 #[.val (.int p1)] []))
  refine own_iloadN X0 hx (hb hby d2_0) (q := 1) rfl rfl ?_
  refine own_via (X0.ldcInt hx hown (mvT hZ (own_w hw 6 rfl)) (g := (mkF m 1 #[.val (.int p1)] [(.int p1)])) rfl (hb hby d2_1)) ?_
  show own_Go p e below _ (s₁.setTop (mkF m 3 #[.val (.int p1)] [(.int (55296 : Int32)), (.int p1)]))
  by_cases h1 : p1 < (55296 : Int32)
  · refine own_via (fun _ => XS.icmpYes X0.here hx rfl (pc0 := 3) (pc' := 16) rfl (hb hby d2_3) rfl (tlt (h1 : p1 < (55296 : Int32))).1 (by decide) (by decide)) ?_
    show own_Go p e below _ (s₁.setTop (mkF m 16 #[.val (.int p1)] []))
    refine own_iconst X0 hx (hb hby d2_16) (q := 17) (z := (0 : Int32)) rfl rfl ?_
    exact own_retv X0 Bd.notSynchronized hx Bd.returns rfl (Or.inl ⟨rfl, (by simp), _, rfl⟩) (hb hby d2_17) (by decide) (by decide) (by rw [e0]; exact ⟨(0 : Int32), rfl, N0, rfl, (if_neg (show ¬ own_hi p1 from fun q => q.1 h1)).symm⟩)
  · refine own_via (fun _ => XS.icmpNo X0.here hx rfl (hb hby d2_3) rfl (flt (h1 : ¬ (p1 < (55296 : Int32)))).1) ?_
    show own_Go p e below _ (s₁.setTop (mkF m 6 #[.val (.int p1)] []))
    refine own_iloadN X0 hx (hb hby d2_6) (q := 7) rfl rfl ?_
    refine own_via (X0.ldcInt hx hown (mvT hZ (own_w hw 15 rfl)) (g := (mkF m 7 #[.val (.int p1)] [(.int p1)])) rfl (hb hby d2_7)) ?_
    show own_Go p e below _ (s₁.setTop (mkF m 9 #[.val (.int p1)] [(.int (56319 : Int32)), (.int p1)]))
    by_cases h2 : (56319 : Int32) < p1
    · refine own_via (fun _ => XS.icmpYes X0.here hx rfl (pc0 := 9) (pc' := 16) rfl (hb hby d2_9) rfl (tlt (h2 : (56319 : Int32) < p1)).2.2.1 (by decide) (by decide)) ?_
      show own_Go p e below _ (s₁.setTop (mkF m 16 #[.val (.int p1)] []))
      refine own_iconst X0 hx (hb hby d2_16) (q := 17) (z := (0 : Int32)) rfl rfl ?_
      exact own_retv X0 Bd.notSynchronized hx Bd.returns rfl (Or.inl ⟨rfl, (by simp), _, rfl⟩) (hb hby d2_17) (by decide) (by decide) (by rw [e0]; exact ⟨(0 : Int32), rfl, N0, rfl, (if_neg (show ¬ own_hi p1 from own_hiN h2)).symm⟩)
    · refine own_via (fun _ => XS.icmpNo X0.here hx rfl (hb hby d2_9) rfl (flt (h2 : ¬ ((56319 : Int32) < p1))).2.2.1) ?_
      show own_Go p e below _ (s₁.setTop (mkF m 12 #[.val (.int p1)] []))
      refine own_iconst X0 hx (hb hby d2_12) (q := 13) (z := (1 : Int32)) rfl rfl ?_
      refine own_via (fun _ => XS.goto X0.here hx rfl (pc0 := 13) (pc' := 17) rfl (hb hby d2_13) (by decide) (by decide)) ?_
      show own_Go p e below _ (s₁.setTop (mkF m 17 #[.val (.int p1)] [(.int (1 : Int32))]))
      exact own_retv X0 Bd.notSynchronized hx Bd.returns rfl (Or.inl ⟨rfl, (by simp), _, rfl⟩) (hb hby d2_17) (by decide) (by decide) (by rw [e0]; exact ⟨(1 : Int32), rfl, N0, rfl, (if_pos (show own_hi p1 from own_hiL h1 h2)).symm⟩)
theorem d4_0 : decode method_4_code 0 = .ok (.iload_n 0, 1) := by decide +kernel
theorem d4_1 : decode method_4_code 1 = .ok (.ldc 12, 2) := by decide +kernel
theorem d4_3 : decode method_4_code 3 = .ok (.if_icmp .lt 13, 3) := by decide +kernel
theorem d4_6 : decode method_4_code 6 = .ok (.iload_n 0, 1) := by decide +kernel
theorem d4_7 : decode method_4_code 7 = .ok (.ldc 14, 2) := by decide +kernel
theorem d4_9 : decode method_4_code 9 = .ok (.if_icmp .gt 7, 3) := by decide +kernel
theorem d4_12 : decode method_4_code 12 = .ok (.iconst 1, 1) := by decide +kernel
theorem d4_13 : decode method_4_code 13 = .ok (.goto 4, 3) := by decide +kernel
theorem d4_16 : decode method_4_code 16 = .ok (.iconst 0, 1) := by decide +kernel
theorem d4_17 : decode method_4_code 17 = .ok (.ireturn, 1) := by decide +kernel
theorem ef_low (m : MethodId) (p1 : Int32) : entryFrame m #[(.int p1)] 1 = mkF m 0 #[.val (.int p1)] [] := by first | (simp [entryFrame, mkF, argsToLocals, Value.category]; done) | rfl
def Qlow (Z : State) (p1 : Int32) (h0 : Heap) (n0 : Nat) (v : Option Value) (h : Heap) (L : List Loc) : Prop := ∃ z : Int32, v = some (.int z) ∧ Fr n0 L ∧ h = h0 ∧ (z = if own_lo p1 then 1 else 0)
theorem rmlow (l : Launch) (Z : State) (a0 : Array Value) (hw : ∀ d ∈ tables_1, d.before a0 Z = true) (ws : List Jvm.Cond) (p1 : Int32) (h0 : Heap) (n0 : Nat) (Z0 : n0 ≤ h0.size) :
    MetFree l (⟨"com/example/tender/tender/mailbox/MailAbstractOfPinLaw", "low", "(C)Z"⟩ : MethodName) (head1 (Jvm.Cond.code (⟨"com/example/tender/tender/mailbox/MailAbstractOfPinLaw", "low", "(C)Z"⟩ : MethodName) method_4_code 1 (some .boolean) :: ws) ({ frames := 0, cells := 0, slots := 0, locals := 0 } : Room)) (fun a U => a = #[(.int p1)] ∧ Z.Warmed39 U.vm ∧ U.heap = h0) (fun _ _ _ _ _ => True) (fun _ U o U' => ∃ v L, o = .returned v ∧ Qlow Z p1 h0 n0 v U'.heap L ∧ FrameEnd U o U' L ({ frames := 0, cells := 0, slots := 0, locals := 0 } : Room).cells ({ frames := 0, cells := 0, slots := 0, locals := 0 } : Room).slots) := by
  refine MetFree.of_bodySF (plainFor_of_name pn_com_example_tender_tender_mailbox_MailAbstractOfPinLaw) hisR ?_
  intro p e s m args below meth c s₁ Bd hml0 hP hK
  obtain ⟨rfl, hZ, hH0⟩ := hP
  have hx := Bd.exec
  have hby := Bd.bytes
  have hml : c.maxLocals = 1 := hml0
  have hown : s.vm.findClass "com/example/tender/tender/mailbox/MailAbstractOfPinLaw" = some m.cls := findClass_of_methodNamed Bd.named
  have hnm := (name_of_methodNamed Bd.named Bd.method).1
  have X0 : Stand p l e ({ frames := 0, cells := 0, slots := 0, locals := 0 } : Room) s m #[(.int p1)] below meth c s₁ [] 0 0 := Stand.of_body Bd
  have e0 : s₁.heap = h0 := by rw [← hH0, Bd.state]; rfl
  have N0 := Fr.nil n0
  refine own_cast (ef_low m p1) ?_
  show own_Go p e below (fun o U' => ∃ v L, o = .returned v ∧ Qlow Z p1 h0 n0 v U'.heap L ∧ FrameEnd s o U' L ({ frames := 0, cells := 0, slots := 0, locals := 0 } : Room).cells ({ frames := 0, cells := 0, slots := 0, locals := 0 } : Room).slots) (s₁.setTop (mkF m 0 #[.val (.int p1)] []))
  refine own_iloadN X0 hx (hb hby d4_0) (q := 1) rfl rfl ?_
  refine own_via (X0.ldcInt hx hown (mvT hZ (own_w hw 7 rfl)) (g := (mkF m 1 #[.val (.int p1)] [(.int p1)])) rfl (hb hby d4_1)) ?_
  show own_Go p e below _ (s₁.setTop (mkF m 3 #[.val (.int p1)] [(.int (56320 : Int32)), (.int p1)]))
  by_cases h1 : p1 < (56320 : Int32)
  · refine own_via (fun _ => XS.icmpYes X0.here hx rfl (pc0 := 3) (pc' := 16) rfl (hb hby d4_3) rfl (tlt (h1 : p1 < (56320 : Int32))).1 (by decide) (by decide)) ?_
    show own_Go p e below _ (s₁.setTop (mkF m 16 #[.val (.int p1)] []))
    refine own_iconst X0 hx (hb hby d4_16) (q := 17) (z := (0 : Int32)) rfl rfl ?_
    exact own_retv X0 Bd.notSynchronized hx Bd.returns rfl (Or.inl ⟨rfl, (by simp), _, rfl⟩) (hb hby d4_17) (by decide) (by decide) (by rw [e0]; exact ⟨(0 : Int32), rfl, N0, rfl, (if_neg (show ¬ own_lo p1 from fun q => q.1 h1)).symm⟩)
  · refine own_via (fun _ => XS.icmpNo X0.here hx rfl (hb hby d4_3) rfl (flt (h1 : ¬ (p1 < (56320 : Int32)))).1) ?_
    show own_Go p e below _ (s₁.setTop (mkF m 6 #[.val (.int p1)] []))
    refine own_iloadN X0 hx (hb hby d4_6) (q := 7) rfl rfl ?_
    refine own_via (X0.ldcInt hx hown (mvT hZ (own_w hw 209 rfl)) (g := (mkF m 7 #[.val (.int p1)] [(.int p1)])) rfl (hb hby d4_7)) ?_
    show own_Go p e below _ (s₁.setTop (mkF m 9 #[.val (.int p1)] [(.int (57343 : Int32)), (.int p1)]))
    by_cases h2 : (57343 : Int32) < p1
    · refine own_via (fun _ => XS.icmpYes X0.here hx rfl (pc0 := 9) (pc' := 16) rfl (hb hby d4_9) rfl (tlt (h2 : (57343 : Int32) < p1)).2.2.1 (by decide) (by decide)) ?_
      show own_Go p e below _ (s₁.setTop (mkF m 16 #[.val (.int p1)] []))
      refine own_iconst X0 hx (hb hby d4_16) (q := 17) (z := (0 : Int32)) rfl rfl ?_
      exact own_retv X0 Bd.notSynchronized hx Bd.returns rfl (Or.inl ⟨rfl, (by simp), _, rfl⟩) (hb hby d4_17) (by decide) (by decide) (by rw [e0]; exact ⟨(0 : Int32), rfl, N0, rfl, (if_neg (show ¬ own_lo p1 from own_loN h2)).symm⟩)
    · refine own_via (fun _ => XS.icmpNo X0.here hx rfl (hb hby d4_9) rfl (flt (h2 : ¬ ((57343 : Int32) < p1))).2.2.1) ?_
      show own_Go p e below _ (s₁.setTop (mkF m 12 #[.val (.int p1)] []))
      refine own_iconst X0 hx (hb hby d4_12) (q := 13) (z := (1 : Int32)) rfl rfl ?_
      refine own_via (fun _ => XS.goto X0.here hx rfl (pc0 := 13) (pc' := 17) rfl (hb hby d4_13) (by decide) (by decide)) ?_
      show own_Go p e below _ (s₁.setTop (mkF m 17 #[.val (.int p1)] [(.int (1 : Int32))]))
      exact own_retv X0 Bd.notSynchronized hx Bd.returns rfl (Or.inl ⟨rfl, (by simp), _, rfl⟩) (hb hby d4_17) (by decide) (by decide) (by rw [e0]; exact ⟨(1 : Int32), rfl, N0, rfl, (if_pos (show own_lo p1 from own_loL h1 h2)).symm⟩)
theorem d29_0 : decode jdk_89_method_14_code 0 = .ok (.iload_n 0, 1) := by decide +kernel
theorem d29_1 : decode jdk_89_method_14_code 1 = .ok (.ldc 75, 2) := by decide +kernel
theorem d29_3 : decode jdk_89_method_14_code 3 = .ok (.if_icmp .lt 13, 3) := by decide +kernel
theorem d29_6 : decode jdk_89_method_14_code 6 = .ok (.iload_n 0, 1) := by decide +kernel
theorem d29_7 : decode jdk_89_method_14_code 7 = .ok (.ldc 76, 2) := by decide +kernel
theorem d29_9 : decode jdk_89_method_14_code 9 = .ok (.if_icmp .ge 7, 3) := by decide +kernel
theorem d29_12 : decode jdk_89_method_14_code 12 = .ok (.iconst 1, 1) := by decide +kernel
theorem d29_13 : decode jdk_89_method_14_code 13 = .ok (.goto 4, 3) := by decide +kernel
theorem d29_16 : decode jdk_89_method_14_code 16 = .ok (.iconst 0, 1) := by decide +kernel
theorem d29_17 : decode jdk_89_method_14_code 17 = .ok (.ireturn, 1) := by decide +kernel
theorem pn_java_lang_Character : plainName "java/lang/Character" = true := by first | (simp [plainName, overriddenIn]; done) | decide +kernel
theorem ef_isHi (m : MethodId) (p1 : Int32) : entryFrame m #[(.int p1)] 1 = mkF m 0 #[.val (.int p1)] [] := by first | (simp [entryFrame, mkF, argsToLocals, Value.category]; done) | rfl
def QisHi (Z : State) (p1 : Int32) (h0 : Heap) (n0 : Nat) (v : Option Value) (h : Heap) (L : List Loc) : Prop := ∃ z : Int32, v = some (.int z) ∧ Fr n0 L ∧ h = h0 ∧ (z = if own_hi p1 then 1 else 0)
theorem rmisHi (l : Launch) (Z : State) (a0 : Array Value) (hw : ∀ d ∈ tables_1, d.before a0 Z = true) (ws : List Jvm.Cond) (p1 : Int32) (h0 : Heap) (n0 : Nat) (Z0 : n0 ≤ h0.size) :
    MetFree l (⟨"java/lang/Character", "isHighSurrogate", "(C)Z"⟩ : MethodName) (head1 (Jvm.Cond.code (⟨"java/lang/Character", "isHighSurrogate", "(C)Z"⟩ : MethodName) jdk_89_method_14_code 1 (some .boolean) :: ws) ({ frames := 0, cells := 0, slots := 0, locals := 0 } : Room)) (fun a U => a = #[(.int p1)] ∧ Z.Warmed39 U.vm ∧ U.heap = h0) (fun _ _ _ _ _ => True) (fun _ U o U' => ∃ v L, o = .returned v ∧ QisHi Z p1 h0 n0 v U'.heap L ∧ FrameEnd U o U' L ({ frames := 0, cells := 0, slots := 0, locals := 0 } : Room).cells ({ frames := 0, cells := 0, slots := 0, locals := 0 } : Room).slots) := by
  refine MetFree.of_bodySF (plainFor_of_name pn_java_lang_Character) hisR ?_
  intro p e s m args below meth c s₁ Bd hml0 hP hK
  obtain ⟨rfl, hZ, hH0⟩ := hP
  have hx := Bd.exec
  have hby := Bd.bytes
  have hml : c.maxLocals = 1 := hml0
  have hown : s.vm.findClass "java/lang/Character" = some m.cls := findClass_of_methodNamed Bd.named
  have hnm := (name_of_methodNamed Bd.named Bd.method).1
  have X0 : Stand p l e ({ frames := 0, cells := 0, slots := 0, locals := 0 } : Room) s m #[(.int p1)] below meth c s₁ [] 0 0 := Stand.of_body Bd
  have e0 : s₁.heap = h0 := by rw [← hH0, Bd.state]; rfl
  have N0 := Fr.nil n0
  refine own_cast (ef_isHi m p1) ?_
  show own_Go p e below (fun o U' => ∃ v L, o = .returned v ∧ QisHi Z p1 h0 n0 v U'.heap L ∧ FrameEnd s o U' L ({ frames := 0, cells := 0, slots := 0, locals := 0 } : Room).cells ({ frames := 0, cells := 0, slots := 0, locals := 0 } : Room).slots) (s₁.setTop (mkF m 0 #[.val (.int p1)] []))
  refine own_iloadN X0 hx (hb hby d29_0) (q := 1) rfl rfl ?_
  refine own_via (X0.ldcInt hx hown (mvT hZ (own_w hw 133 rfl)) (g := (mkF m 1 #[.val (.int p1)] [(.int p1)])) rfl (hb hby d29_1)) ?_
  show own_Go p e below _ (s₁.setTop (mkF m 3 #[.val (.int p1)] [(.int (55296 : Int32)), (.int p1)]))
  by_cases h1 : p1 < (55296 : Int32)
  · refine own_via (fun _ => XS.icmpYes X0.here hx rfl (pc0 := 3) (pc' := 16) rfl (hb hby d29_3) rfl (tlt (h1 : p1 < (55296 : Int32))).1 (by decide) (by decide)) ?_
    show own_Go p e below _ (s₁.setTop (mkF m 16 #[.val (.int p1)] []))
    refine own_iconst X0 hx (hb hby d29_16) (q := 17) (z := (0 : Int32)) rfl rfl ?_
    exact own_retv X0 Bd.notSynchronized hx Bd.returns rfl (Or.inl ⟨rfl, (by simp), _, rfl⟩) (hb hby d29_17) (by decide) (by decide) (by rw [e0]; exact ⟨(0 : Int32), rfl, N0, rfl, (if_neg (show ¬ own_hi p1 from fun q => q.1 h1)).symm⟩)
  · refine own_via (fun _ => XS.icmpNo X0.here hx rfl (hb hby d29_3) rfl (flt (h1 : ¬ (p1 < (55296 : Int32)))).1) ?_
    show own_Go p e below _ (s₁.setTop (mkF m 6 #[.val (.int p1)] []))
    refine own_iloadN X0 hx (hb hby d29_6) (q := 7) rfl rfl ?_
    refine own_via (X0.ldcInt hx hown (mvT hZ (own_w hw 134 rfl)) (g := (mkF m 7 #[.val (.int p1)] [(.int p1)])) rfl (hb hby d29_7)) ?_
    show own_Go p e below _ (s₁.setTop (mkF m 9 #[.val (.int p1)] [(.int (56320 : Int32)), (.int p1)]))
    by_cases h2 : p1 < (56320 : Int32)
    · refine own_via (fun _ => XS.icmpNo X0.here hx rfl (hb hby d29_9) rfl (tlt (h2 : p1 < (56320 : Int32))).2.1) ?_
      show own_Go p e below _ (s₁.setTop (mkF m 12 #[.val (.int p1)] []))
      refine own_iconst X0 hx (hb hby d29_12) (q := 13) (z := (1 : Int32)) rfl rfl ?_
      refine own_via (fun _ => XS.goto X0.here hx rfl (pc0 := 13) (pc' := 17) rfl (hb hby d29_13) (by decide) (by decide)) ?_
      show own_Go p e below _ (s₁.setTop (mkF m 17 #[.val (.int p1)] [(.int (1 : Int32))]))
      exact own_retv X0 Bd.notSynchronized hx Bd.returns rfl (Or.inl ⟨rfl, (by simp), _, rfl⟩) (hb hby d29_17) (by decide) (by decide) (by rw [e0]; exact ⟨(1 : Int32), rfl, N0, rfl, (if_pos (show own_hi p1 from ⟨h1, h2⟩)).symm⟩)
    · refine own_via (fun _ => XS.icmpYes X0.here hx rfl (pc0 := 9) (pc' := 16) rfl (hb hby d29_9) rfl (flt (h2 : ¬ (p1 < (56320 : Int32)))).2.1 (by decide) (by decide)) ?_
      show own_Go p e below _ (s₁.setTop (mkF m 16 #[.val (.int p1)] []))
      refine own_iconst X0 hx (hb hby d29_16) (q := 17) (z := (0 : Int32)) rfl rfl ?_
      exact own_retv X0 Bd.notSynchronized hx Bd.returns rfl (Or.inl ⟨rfl, (by simp), _, rfl⟩) (hb hby d29_17) (by decide) (by decide) (by rw [e0]; exact ⟨(0 : Int32), rfl, N0, rfl, (if_neg (show ¬ own_hi p1 from fun q => h2 q.2)).symm⟩)
theorem d30_0 : decode jdk_89_method_15_code 0 = .ok (.iload_n 0, 1) := by decide +kernel
theorem d30_1 : decode jdk_89_method_15_code 1 = .ok (.ldc 76, 2) := by decide +kernel
theorem d30_3 : decode jdk_89_method_15_code 3 = .ok (.if_icmp .lt 13, 3) := by decide +kernel
theorem d30_6 : decode jdk_89_method_15_code 6 = .ok (.iload_n 0, 1) := by decide +kernel
theorem d30_7 : decode jdk_89_method_15_code 7 = .ok (.ldc 77, 2) := by decide +kernel
theorem d30_9 : decode jdk_89_method_15_code 9 = .ok (.if_icmp .ge 7, 3) := by decide +kernel
theorem d30_12 : decode jdk_89_method_15_code 12 = .ok (.iconst 1, 1) := by decide +kernel
theorem d30_13 : decode jdk_89_method_15_code 13 = .ok (.goto 4, 3) := by decide +kernel
theorem d30_16 : decode jdk_89_method_15_code 16 = .ok (.iconst 0, 1) := by decide +kernel
theorem d30_17 : decode jdk_89_method_15_code 17 = .ok (.ireturn, 1) := by decide +kernel
theorem ef_isLo (m : MethodId) (p1 : Int32) : entryFrame m #[(.int p1)] 1 = mkF m 0 #[.val (.int p1)] [] := by first | (simp [entryFrame, mkF, argsToLocals, Value.category]; done) | rfl
def QisLo (Z : State) (p1 : Int32) (h0 : Heap) (n0 : Nat) (v : Option Value) (h : Heap) (L : List Loc) : Prop := ∃ z : Int32, v = some (.int z) ∧ Fr n0 L ∧ h = h0 ∧ (z = if own_lo p1 then 1 else 0)
theorem rmisLo (l : Launch) (Z : State) (a0 : Array Value) (hw : ∀ d ∈ tables_1, d.before a0 Z = true) (ws : List Jvm.Cond) (p1 : Int32) (h0 : Heap) (n0 : Nat) (Z0 : n0 ≤ h0.size) :
    MetFree l (⟨"java/lang/Character", "isLowSurrogate", "(C)Z"⟩ : MethodName) (head1 (Jvm.Cond.code (⟨"java/lang/Character", "isLowSurrogate", "(C)Z"⟩ : MethodName) jdk_89_method_15_code 1 (some .boolean) :: ws) ({ frames := 0, cells := 0, slots := 0, locals := 0 } : Room)) (fun a U => a = #[(.int p1)] ∧ Z.Warmed39 U.vm ∧ U.heap = h0) (fun _ _ _ _ _ => True) (fun _ U o U' => ∃ v L, o = .returned v ∧ QisLo Z p1 h0 n0 v U'.heap L ∧ FrameEnd U o U' L ({ frames := 0, cells := 0, slots := 0, locals := 0 } : Room).cells ({ frames := 0, cells := 0, slots := 0, locals := 0 } : Room).slots) := by
  refine MetFree.of_bodySF (plainFor_of_name pn_java_lang_Character) hisR ?_
  intro p e s m args below meth c s₁ Bd hml0 hP hK
  obtain ⟨rfl, hZ, hH0⟩ := hP
  have hx := Bd.exec
  have hby := Bd.bytes
  have hml : c.maxLocals = 1 := hml0
  have hown : s.vm.findClass "java/lang/Character" = some m.cls := findClass_of_methodNamed Bd.named
  have hnm := (name_of_methodNamed Bd.named Bd.method).1
  have X0 : Stand p l e ({ frames := 0, cells := 0, slots := 0, locals := 0 } : Room) s m #[(.int p1)] below meth c s₁ [] 0 0 := Stand.of_body Bd
  have e0 : s₁.heap = h0 := by rw [← hH0, Bd.state]; rfl
  have N0 := Fr.nil n0
  refine own_cast (ef_isLo m p1) ?_
  show own_Go p e below (fun o U' => ∃ v L, o = .returned v ∧ QisLo Z p1 h0 n0 v U'.heap L ∧ FrameEnd s o U' L ({ frames := 0, cells := 0, slots := 0, locals := 0 } : Room).cells ({ frames := 0, cells := 0, slots := 0, locals := 0 } : Room).slots) (s₁.setTop (mkF m 0 #[.val (.int p1)] []))
  refine own_iloadN X0 hx (hb hby d30_0) (q := 1) rfl rfl ?_
  refine own_via (X0.ldcInt hx hown (mvT hZ (own_w hw 134 rfl)) (g := (mkF m 1 #[.val (.int p1)] [(.int p1)])) rfl (hb hby d30_1)) ?_
  show own_Go p e below _ (s₁.setTop (mkF m 3 #[.val (.int p1)] [(.int (56320 : Int32)), (.int p1)]))
  by_cases h1 : p1 < (56320 : Int32)
  · refine own_via (fun _ => XS.icmpYes X0.here hx rfl (pc0 := 3) (pc' := 16) rfl (hb hby d30_3) rfl (tlt (h1 : p1 < (56320 : Int32))).1 (by decide) (by decide)) ?_
    show own_Go p e below _ (s₁.setTop (mkF m 16 #[.val (.int p1)] []))
    refine own_iconst X0 hx (hb hby d30_16) (q := 17) (z := (0 : Int32)) rfl rfl ?_
    exact own_retv X0 Bd.notSynchronized hx Bd.returns rfl (Or.inl ⟨rfl, (by simp), _, rfl⟩) (hb hby d30_17) (by decide) (by decide) (by rw [e0]; exact ⟨(0 : Int32), rfl, N0, rfl, (if_neg (show ¬ own_lo p1 from fun q => q.1 h1)).symm⟩)
  · refine own_via (fun _ => XS.icmpNo X0.here hx rfl (hb hby d30_3) rfl (flt (h1 : ¬ (p1 < (56320 : Int32)))).1) ?_
    show own_Go p e below _ (s₁.setTop (mkF m 6 #[.val (.int p1)] []))
    refine own_iloadN X0 hx (hb hby d30_6) (q := 7) rfl rfl ?_
    refine own_via (X0.ldcInt hx hown (mvT hZ (own_w hw 210 rfl)) (g := (mkF m 7 #[.val (.int p1)] [(.int p1)])) rfl (hb hby d30_7)) ?_
    show own_Go p e below _ (s₁.setTop (mkF m 9 #[.val (.int p1)] [(.int (57344 : Int32)), (.int p1)]))
    by_cases h2 : p1 < (57344 : Int32)
    · refine own_via (fun _ => XS.icmpNo X0.here hx rfl (hb hby d30_9) rfl (tlt (h2 : p1 < (57344 : Int32))).2.1) ?_
      show own_Go p e below _ (s₁.setTop (mkF m 12 #[.val (.int p1)] []))
      refine own_iconst X0 hx (hb hby d30_12) (q := 13) (z := (1 : Int32)) rfl rfl ?_
      refine own_via (fun _ => XS.goto X0.here hx rfl (pc0 := 13) (pc' := 17) rfl (hb hby d30_13) (by decide) (by decide)) ?_
      show own_Go p e below _ (s₁.setTop (mkF m 17 #[.val (.int p1)] [(.int (1 : Int32))]))
      exact own_retv X0 Bd.notSynchronized hx Bd.returns rfl (Or.inl ⟨rfl, (by simp), _, rfl⟩) (hb hby d30_17) (by decide) (by decide) (by rw [e0]; exact ⟨(1 : Int32), rfl, N0, rfl, (if_pos (show own_lo p1 from ⟨h1, h2⟩)).symm⟩)
    · refine own_via (fun _ => XS.icmpYes X0.here hx rfl (pc0 := 9) (pc' := 16) rfl (hb hby d30_9) rfl (flt (h2 : ¬ (p1 < (57344 : Int32)))).2.1 (by decide) (by decide)) ?_
      show own_Go p e below _ (s₁.setTop (mkF m 16 #[.val (.int p1)] []))
      refine own_iconst X0 hx (hb hby d30_16) (q := 17) (z := (0 : Int32)) rfl rfl ?_
      exact own_retv X0 Bd.notSynchronized hx Bd.returns rfl (Or.inl ⟨rfl, (by simp), _, rfl⟩) (hb hby d30_17) (by decide) (by decide) (by rw [e0]; exact ⟨(0 : Int32), rfl, N0, rfl, (if_neg (show ¬ own_lo p1 from fun q => h2 q.2)).symm⟩)
theorem d3_0 : decode method_5_code 0 = .ok (.iload_n 1, 1) := by decide +kernel
theorem d3_1 : decode method_5_code 1 = .ok (.aload_n 0, 1) := by decide +kernel
theorem d3_2 : decode method_5_code 2 = .ok (.arraylength, 1) := by decide +kernel
theorem d3_3 : decode method_5_code 3 = .ok (.if_icmp .lt 5, 3) := by decide +kernel
theorem d3_6 : decode method_5_code 6 = .ok (.iload_n 1, 1) := by decide +kernel
theorem d3_7 : decode method_5_code 7 = .ok (.ireturn, 1) := by decide +kernel
theorem d3_8 : decode method_5_code 8 = .ok (.aload_n 0, 1) := by decide +kernel
theorem d3_9 : decode method_5_code 9 = .ok (.iload_n 1, 1) := by decide +kernel
theorem d3_10 : decode method_5_code 10 = .ok (.caload, 1) := by decide +kernel
theorem d3_11 : decode method_5_code 11 = .ok (.invokestatic 15, 3) := by decide +kernel
theorem d3_14 : decode method_5_code 14 = .ok (.ifCond .eq 26, 3) := by decide +kernel
theorem d3_17 : decode method_5_code 17 = .ok (.iload_n 1, 1) := by decide +kernel
theorem d3_18 : decode method_5_code 18 = .ok (.iconst 1, 1) := by decide +kernel
theorem d3_19 : decode method_5_code 19 = .ok (.iadd, 1) := by decide +kernel
theorem d3_20 : decode method_5_code 20 = .ok (.aload_n 0, 1) := by decide +kernel
theorem d3_21 : decode method_5_code 21 = .ok (.arraylength, 1) := by decide +kernel
theorem d3_22 : decode method_5_code 22 = .ok (.if_icmp .ge 18, 3) := by decide +kernel
theorem d3_25 : decode method_5_code 25 = .ok (.aload_n 0, 1) := by decide +kernel
theorem d3_26 : decode method_5_code 26 = .ok (.iload_n 1, 1) := by decide +kernel
theorem d3_27 : decode method_5_code 27 = .ok (.iconst 1, 1) := by decide +kernel
theorem d3_28 : decode method_5_code 28 = .ok (.iadd, 1) := by decide +kernel
theorem d3_29 : decode method_5_code 29 = .ok (.caload, 1) := by decide +kernel
theorem d3_30 : decode method_5_code 30 = .ok (.invokestatic 21, 3) := by decide +kernel
theorem d3_33 : decode method_5_code 33 = .ok (.ifCond .eq 7, 3) := by decide +kernel
theorem d3_36 : decode method_5_code 36 = .ok (.iload_n 1, 1) := by decide +kernel
theorem d3_37 : decode method_5_code 37 = .ok (.iconst 2, 1) := by decide +kernel
theorem d3_38 : decode method_5_code 38 = .ok (.iadd, 1) := by decide +kernel
theorem d3_39 : decode method_5_code 39 = .ok (.ireturn, 1) := by decide +kernel
theorem d3_40 : decode method_5_code 40 = .ok (.iload_n 1, 1) := by decide +kernel
theorem d3_41 : decode method_5_code 41 = .ok (.iconst 1, 1) := by decide +kernel
theorem d3_42 : decode method_5_code 42 = .ok (.iadd, 1) := by decide +kernel
theorem d3_43 : decode method_5_code 43 = .ok (.ireturn, 1) := by decide +kernel
theorem pd_0 : parseMethodDescriptor "(C)Z" = some ⟨[.char], some .boolean⟩ := by decide +kernel
theorem ef_step (m : MethodId) (a1 : Addr) (i : Nat) : entryFrame m #[(.ref a1), (.int (Int32.ofNat i))] 2 = mkF m 0 #[.val (.ref a1), .val (.int (Int32.ofNat i))] [] := by first | (simp [entryFrame, mkF, argsToLocals, Value.category]; done) | rfl
def Qstep (Z : State) (a1 : Addr) (k1 : ClassId) (cs : List Int32) (i : Nat) (h0 : Heap) (n0 : Nat) (v : Option Value) (h : Heap) (L : List Loc) : Prop := v = some (.int (Int32.ofNat (own_nx cs i))) ∧ Fr n0 L ∧ h = h0
theorem rmstep (l : Launch) (Z : State) (a0 : Array Value) (hw : ∀ d ∈ tables_1, d.before a0 Z = true) (ws : List Jvm.Cond) (a1 : Addr) (k1 : ClassId) (cs : List Int32) (i : Nat) (h0 : Heap) (n0 : Nat) (Z0 : n0 ≤ h0.size) (A1 : Arv Z h0 a1 k1 .char (Int32.ofNat cs.length) (cs.map Value.int) (.int (0 : Int32))) (hl : cs.length ≤ 103) (hi : i ≤ 110) :
    MetFree l (⟨"com/example/tender/tender/mailbox/MailAbstractOfPinLaw", "step", "([CI)I"⟩ : MethodName) (head1 (Jvm.Cond.code (⟨"com/example/tender/tender/mailbox/MailAbstractOfPinLaw", "step", "([CI)I"⟩ : MethodName) method_5_code 2 (some .int) :: ws) ({ frames := 1, cells := 0, slots := 0, locals := 14 } : Room)) (fun a U => a = #[(.ref a1), (.int (Int32.ofNat i))] ∧ Z.Warmed39 U.vm ∧ U.heap = h0) (fun _ _ _ _ _ => True) (fun _ U o U' => ∃ v L, o = .returned v ∧ Qstep Z a1 k1 cs i h0 n0 v U'.heap L ∧ FrameEnd U o U' L ({ frames := 1, cells := 0, slots := 0, locals := 14 } : Room).cells ({ frames := 1, cells := 0, slots := 0, locals := 14 } : Room).slots) := by
  refine MetFree.of_bodySF (plainFor_of_name pn_com_example_tender_tender_mailbox_MailAbstractOfPinLaw) hisR ?_
  intro p e s m args below meth c s₁ Bd hml0 hP hK
  obtain ⟨rfl, hZ, hH0⟩ := hP
  have hx := Bd.exec
  have hby := Bd.bytes
  have hml : c.maxLocals = 2 := hml0
  have hown : s.vm.findClass "com/example/tender/tender/mailbox/MailAbstractOfPinLaw" = some m.cls := findClass_of_methodNamed Bd.named
  have hnm := (name_of_methodNamed Bd.named Bd.method).1
  have X0 : Stand p l e ({ frames := 1, cells := 0, slots := 0, locals := 14 } : Room) s m #[(.ref a1), (.int (Int32.ofNat i))] below meth c s₁ [] 0 0 := Stand.of_body Bd
  have e0 : s₁.heap = h0 := by rw [← hH0, Bd.state]; rfl
  have N0 := Fr.nil n0
  refine own_cast (ef_step m a1 i) ?_
  show own_Go p e below (fun o U' => ∃ v L, o = .returned v ∧ Qstep Z a1 k1 cs i h0 n0 v U'.heap L ∧ FrameEnd s o U' L ({ frames := 1, cells := 0, slots := 0, locals := 14 } : Room).cells ({ frames := 1, cells := 0, slots := 0, locals := 14 } : Room).slots) (s₁.setTop (mkF m 0 #[.val (.ref a1), .val (.int (Int32.ofNat i))] []))
  refine own_iloadN X0 hx (hb hby d3_0) (q := 1) rfl rfl ?_
  refine own_aloadN X0 hx (hb hby d3_1) (q := 2) rfl rfl rfl ?_
  obtain ⟨cl_1, Ar_1, q_1, S_1, M_1, H_1, G_1⟩ := (id A1)
  refine own_via (X0.arraylength hx (by rw [e0]; exact Ar_1.1) (State.isArrayOf_alike hZ.alike Ar_1.2.1) (g := (mkF m 2 #[.val (.ref a1), .val (.int (Int32.ofNat i))] [(.ref a1), (.int (Int32.ofNat i))])) rfl rfl (hb hby d3_2)) ?_
  rw [len_of S_1 M_1]
  show own_Go p e below _ (s₁.setTop (mkF m 3 #[.val (.ref a1), .val (.int (Int32.ofNat i))] [(.int (Int32.ofNat cs.length)), (.int (Int32.ofNat i))]))
  by_cases hlt : i < cs.length
  · refine own_via (fun _ => XS.icmpYes X0.here hx rfl (pc0 := 3) (pc' := 8) rfl (hb hby d3_3) rfl (tlt ((own_lt (i := i) (j := cs.length) (by omega) (by omega)).mpr hlt : (Int32.ofNat i) < (Int32.ofNat cs.length))).1 (by decide) (by decide)) ?_
    show own_Go p e below _ (s₁.setTop (mkF m 8 #[.val (.ref a1), .val (.int (Int32.ofNat i))] []))
    refine own_aloadN X0 hx (hb hby d3_8) (q := 9) rfl rfl rfl ?_
    refine own_iloadN X0 hx (hb hby d3_9) (q := 10) rfl rfl ?_
    obtain ⟨cl_2, Ar_2, q_2, S_2, M_2, H_2, G_2⟩ := (id A1)
    have ib_2 := own_inbs (n := cs.length) (i := i) S_2 (by omega) (by omega)
    refine own_via (X0.caload hx (j := Int32.ofNat i) (v := .int (cs.getD i 0)) (by rw [e0]; exact Ar_2.1) (State.isArrayOf_alike hZ.alike Ar_2.2.1) Ar_2.2.2 ib_2 (Has.at H_2 ib_2 (own_getD (by omega))) (g := (mkF m 10 #[.val (.ref a1), .val (.int (Int32.ofNat i))] [(.int (Int32.ofNat i)), (.ref a1)])) rfl rfl (hb hby d3_10)) ?_
    show own_Go p e below _ (s₁.setTop (mkF m 11 #[.val (.ref a1), .val (.int (Int32.ofNat i))] [(.int (cs.getD i 0))]))
    obtain ⟨_, _, ⟨T_3, L_3, k_3, n_3⟩, -, X_3, ⟨Lc_3, hQ_3, l_3, y_3, z_3⟩, st_3⟩ := Jvm.LawKit.callS X0 hx (y := (⟨"com/example/tender/tender/mailbox/MailAbstractOfPinLaw", "high", "(C)Z"⟩ : MethodName)) hown (mvT hZ (own_w hw 9 rfl)) (mvT hZ (own_w hw 10 rfl)) (mvT hZ (own_w hw 2 rfl)) (mvT hZ (own_w hw 11 rfl)) (by decide) (backOf (W := 0) (rmhigh l Z a0 hw [] (cs.getD i 0) h0 n0 Z0 ) hZ (own_w hw 11 rfl) (own_w hw 2 rfl) (by decide) (by decide)) (g := (mkF m 11 #[.val (.ref a1), .val (.int (Int32.ofNat i))] [(.int (cs.getD i 0))])) rfl (by rw [hml]; rfl) (argsL := [(.int (cs.getD i 0))]) (rest := []) (lenOf pd_0 rfl) rfl (by show 2 * 0 + _ ≤ _; exact Nat.le_of_eq rfl) (hb hby d3_11) (fun _ _ => ⟨rfl, e0, (by decide : 0 + 0 ≤ _), (by decide : 0 + 0 ≤ _)⟩)
    dsimp only [Pt.U, Pt.locs, Pt.cells, Pt.slots] at X_3 l_3 y_3 z_3 st_3 hQ_3
    subst l_3 y_3 z_3
    obtain ⟨i_4, rfl, Nq_3, e_3, q_3_0⟩ := hQ_3
    have N_3 := Fr.app N0 Nq_3
    refine own_via st_3 ?_
    show own_Go p e below _ (T_3.setTop (mkF m 14 #[.val (.ref a1), .val (.int (Int32.ofNat i))] [(.int i_4)]))
    have hlt : i < cs.length := hlt
    by_cases hhi : own_hi (cs.getD i 0)
    · refine own_via (fun _ => XS.ifNo X_3.here hx rfl (hb hby d3_14) rfl ((if0 _ _).trans (feq (fun q => absurd (q.symm.trans (q_3_0.trans (if_pos hhi))) (by decide) : ¬ (i_4 = (0 : Int32)))).1)) ?_
      show own_Go p e below _ (T_3.setTop (mkF m 17 #[.val (.ref a1), .val (.int (Int32.ofNat i))] []))
      refine own_iloadN X_3 hx (hb hby d3_17) (q := 18) rfl rfl ?_
      refine own_iconst X_3 hx (hb hby d3_18) (q := 19) (z := (1 : Int32)) rfl rfl ?_
      refine own_via (fun _ => XS.iadd X_3.here hx rfl (hb hby d3_19) rfl) ?_
      show own_Go p e below _ (T_3.setTop (mkF m 20 #[.val (.ref a1), .val (.int (Int32.ofNat i))] [(.int ((Int32.ofNat i) + (1 : Int32)))]))
      rw [own_succ]
      show own_Go p e below _ (T_3.setTop (mkF m 20 #[.val (.ref a1), .val (.int (Int32.ofNat i))] [(.int (Int32.ofNat (i + 1)))]))
      refine own_aloadN X_3 hx (hb hby d3_20) (q := 21) rfl rfl rfl ?_
      obtain ⟨cl_5, Ar_5, q_5, S_5, M_5, H_5, G_5⟩ := (id A1)
      refine own_via (X_3.arraylength hx (by rw [e_3]; exact Ar_5.1) (State.isArrayOf_alike hZ.alike Ar_5.2.1) (g := (mkF m 21 #[.val (.ref a1), .val (.int (Int32.ofNat i))] [(.ref a1), (.int (Int32.ofNat (i + 1)))])) rfl rfl (hb hby d3_21)) ?_
      rw [len_of S_5 M_5]
      show own_Go p e below _ (T_3.setTop (mkF m 22 #[.val (.ref a1), .val (.int (Int32.ofNat i))] [(.int (Int32.ofNat cs.length)), (.int (Int32.ofNat (i + 1)))]))
      by_cases hl2 : i + 1 < cs.length
      · refine own_via (fun _ => XS.icmpNo X_3.here hx rfl (hb hby d3_22) rfl (tlt ((own_lt (i := i + 1) (j := cs.length) (by omega) (by omega)).mpr hl2 : (Int32.ofNat (i + 1)) < (Int32.ofNat cs.length))).2.1) ?_
        show own_Go p e below _ (T_3.setTop (mkF m 25 #[.val (.ref a1), .val (.int (Int32.ofNat i))] []))
        refine own_aloadN X_3 hx (hb hby d3_25) (q := 26) rfl rfl rfl ?_
        refine own_iloadN X_3 hx (hb hby d3_26) (q := 27) rfl rfl ?_
        refine own_iconst X_3 hx (hb hby d3_27) (q := 28) (z := (1 : Int32)) rfl rfl ?_
        refine own_via (fun _ => XS.iadd X_3.here hx rfl (hb hby d3_28) rfl) ?_
        show own_Go p e below _ (T_3.setTop (mkF m 29 #[.val (.ref a1), .val (.int (Int32.ofNat i))] [(.int ((Int32.ofNat i) + (1 : Int32))), (.ref a1)]))
        rw [own_succ]
        show own_Go p e below _ (T_3.setTop (mkF m 29 #[.val (.ref a1), .val (.int (Int32.ofNat i))] [(.int (Int32.ofNat (i + 1))), (.ref a1)]))
        obtain ⟨cl_6, Ar_6, q_6, S_6, M_6, H_6, G_6⟩ := (id A1)
        have ib_6 := own_inbs (n := cs.length) (i := (i + 1)) S_6 (by omega) (by omega)
        refine own_via (X_3.caload hx (j := Int32.ofNat (i + 1)) (v := .int (cs.getD (i + 1) 0)) (by rw [e_3]; exact Ar_6.1) (State.isArrayOf_alike hZ.alike Ar_6.2.1) Ar_6.2.2 ib_6 (Has.at H_6 ib_6 (own_getD (by omega))) (g := (mkF m 29 #[.val (.ref a1), .val (.int (Int32.ofNat i))] [(.int (Int32.ofNat (i + 1))), (.ref a1)])) rfl rfl (hb hby d3_29)) ?_
        show own_Go p e below _ (T_3.setTop (mkF m 30 #[.val (.ref a1), .val (.int (Int32.ofNat i))] [(.int (cs.getD (i + 1) 0))]))
        obtain ⟨_, _, ⟨T_7, L_7, k_7, n_7⟩, -, X_7, ⟨Lc_7, hQ_7, l_7, y_7, z_7⟩, st_7⟩ := Jvm.LawKit.callS X_3 hx (y := (⟨"com/example/tender/tender/mailbox/MailAbstractOfPinLaw", "low", "(C)Z"⟩ : MethodName)) hown (mvT hZ (own_w hw 16 rfl)) (mvT hZ (own_w hw 17 rfl)) (mvT hZ (own_w hw 2 rfl)) (mvT hZ (own_w hw 18 rfl)) (by decide) (backOf (W := 0) (rmlow l Z a0 hw [] (cs.getD (i + 1) 0) h0 n0 Z0 ) hZ (own_w hw 18 rfl) (own_w hw 2 rfl) (by decide) (by decide)) (g := (mkF m 30 #[.val (.ref a1), .val (.int (Int32.ofNat i))] [(.int (cs.getD (i + 1) 0))])) rfl (by rw [hml]; rfl) (argsL := [(.int (cs.getD (i + 1) 0))]) (rest := []) (lenOf pd_0 rfl) rfl (by show 2 * 0 + _ ≤ _; exact Nat.le_of_eq rfl) (hb hby d3_30) (fun _ _ => ⟨rfl, e_3, (by decide : 0 + 0 ≤ _), (by decide : 0 + 0 ≤ _)⟩)
        dsimp only [Pt.U, Pt.locs, Pt.cells, Pt.slots] at X_7 l_7 y_7 z_7 st_7 hQ_7
        subst l_7 y_7 z_7
        obtain ⟨i_8, rfl, Nq_7, e_7, q_7_0⟩ := hQ_7
        have N_7 := Fr.app N_3 Nq_7
        refine own_via st_7 ?_
        show own_Go p e below _ (T_7.setTop (mkF m 33 #[.val (.ref a1), .val (.int (Int32.ofNat i))] [(.int i_8)]))
        by_cases hlo : own_lo (cs.getD (i + 1) 0)
        · refine own_via (fun _ => XS.ifNo X_7.here hx rfl (hb hby d3_33) rfl ((if0 _ _).trans (feq (fun q => absurd (q.symm.trans (q_7_0.trans (if_pos hlo))) (by decide) : ¬ (i_8 = (0 : Int32)))).1)) ?_
          show own_Go p e below _ (T_7.setTop (mkF m 36 #[.val (.ref a1), .val (.int (Int32.ofNat i))] []))
          refine own_iloadN X_7 hx (hb hby d3_36) (q := 37) rfl rfl ?_
          refine own_iconst X_7 hx (hb hby d3_37) (q := 38) (z := (2 : Int32)) rfl rfl ?_
          refine own_via (fun _ => XS.iadd X_7.here hx rfl (hb hby d3_38) rfl) ?_
          show own_Go p e below _ (T_7.setTop (mkF m 39 #[.val (.ref a1), .val (.int (Int32.ofNat i))] [(.int ((Int32.ofNat i) + (2 : Int32)))]))
          rw [own_succ2]
          show own_Go p e below _ (T_7.setTop (mkF m 39 #[.val (.ref a1), .val (.int (Int32.ofNat i))] [(.int (Int32.ofNat (i + 2)))]))
          have hnx : own_nx cs i = (i + 2) := by exact own_nx2 hlt hhi hl2 hlo
          refine own_cast (g' := (mkF m 39 #[.val (.ref a1), .val (.int (Int32.ofNat i))] [(.int (Int32.ofNat (own_nx cs i)))])) (by rw [hnx]) ?_
          exact own_retv X_7 Bd.notSynchronized hx Bd.returns rfl (Or.inl ⟨rfl, (by simp), _, rfl⟩) (hb hby d3_39) (by decide) (by decide) (by rw [e_7]; exact ⟨rfl, N_7, rfl⟩)
        · refine own_via (fun _ => XS.ifYes X_7.here hx rfl (pc0 := 33) (pc' := 40) rfl (hb hby d3_33) rfl ((if0 _ _).trans (teq (q_7_0.trans (if_neg hlo) : i_8 = (0 : Int32))).1) (by decide) (by decide)) ?_
          show own_Go p e below _ (T_7.setTop (mkF m 40 #[.val (.ref a1), .val (.int (Int32.ofNat i))] []))
          refine own_iloadN X_7 hx (hb hby d3_40) (q := 41) rfl rfl ?_
          refine own_iconst X_7 hx (hb hby d3_41) (q := 42) (z := (1 : Int32)) rfl rfl ?_
          refine own_via (fun _ => XS.iadd X_7.here hx rfl (hb hby d3_42) rfl) ?_
          show own_Go p e below _ (T_7.setTop (mkF m 43 #[.val (.ref a1), .val (.int (Int32.ofNat i))] [(.int ((Int32.ofNat i) + (1 : Int32)))]))
          rw [own_succ]
          show own_Go p e below _ (T_7.setTop (mkF m 43 #[.val (.ref a1), .val (.int (Int32.ofNat i))] [(.int (Int32.ofNat (i + 1)))]))
          have hnx : own_nx cs i = (i + 1) := by exact own_nx1 hlt fun _ _ q => hlo q
          refine own_cast (g' := (mkF m 43 #[.val (.ref a1), .val (.int (Int32.ofNat i))] [(.int (Int32.ofNat (own_nx cs i)))])) (by rw [hnx]) ?_
          exact own_retv X_7 Bd.notSynchronized hx Bd.returns rfl (Or.inl ⟨rfl, (by simp), _, rfl⟩) (hb hby d3_43) (by decide) (by decide) (by rw [e_7]; exact ⟨rfl, N_7, rfl⟩)
      · refine own_via (fun _ => XS.icmpYes X_3.here hx rfl (pc0 := 22) (pc' := 40) rfl (hb hby d3_22) rfl (flt (fun q => hl2 ((own_lt (i := i + 1) (j := cs.length) (by omega) (by omega)).mp q) : ¬ ((Int32.ofNat (i + 1)) < (Int32.ofNat cs.length)))).2.1 (by decide) (by decide)) ?_
        show own_Go p e below _ (T_3.setTop (mkF m 40 #[.val (.ref a1), .val (.int (Int32.ofNat i))] []))
        refine own_iloadN X_3 hx (hb hby d3_40) (q := 41) rfl rfl ?_
        refine own_iconst X_3 hx (hb hby d3_41) (q := 42) (z := (1 : Int32)) rfl rfl ?_
        refine own_via (fun _ => XS.iadd X_3.here hx rfl (hb hby d3_42) rfl) ?_
        show own_Go p e below _ (T_3.setTop (mkF m 43 #[.val (.ref a1), .val (.int (Int32.ofNat i))] [(.int ((Int32.ofNat i) + (1 : Int32)))]))
        rw [own_succ]
        show own_Go p e below _ (T_3.setTop (mkF m 43 #[.val (.ref a1), .val (.int (Int32.ofNat i))] [(.int (Int32.ofNat (i + 1)))]))
        have hnx : own_nx cs i = (i + 1) := by exact own_nx1 hlt fun _ q _ => hl2 q
        refine own_cast (g' := (mkF m 43 #[.val (.ref a1), .val (.int (Int32.ofNat i))] [(.int (Int32.ofNat (own_nx cs i)))])) (by rw [hnx]) ?_
        exact own_retv X_3 Bd.notSynchronized hx Bd.returns rfl (Or.inl ⟨rfl, (by simp), _, rfl⟩) (hb hby d3_43) (by decide) (by decide) (by rw [e_3]; exact ⟨rfl, N_3, rfl⟩)
    · refine own_via (fun _ => XS.ifYes X_3.here hx rfl (pc0 := 14) (pc' := 40) rfl (hb hby d3_14) rfl ((if0 _ _).trans (teq (q_3_0.trans (if_neg hhi) : i_4 = (0 : Int32))).1) (by decide) (by decide)) ?_
      show own_Go p e below _ (T_3.setTop (mkF m 40 #[.val (.ref a1), .val (.int (Int32.ofNat i))] []))
      refine own_iloadN X_3 hx (hb hby d3_40) (q := 41) rfl rfl ?_
      refine own_iconst X_3 hx (hb hby d3_41) (q := 42) (z := (1 : Int32)) rfl rfl ?_
      refine own_via (fun _ => XS.iadd X_3.here hx rfl (hb hby d3_42) rfl) ?_
      show own_Go p e below _ (T_3.setTop (mkF m 43 #[.val (.ref a1), .val (.int (Int32.ofNat i))] [(.int ((Int32.ofNat i) + (1 : Int32)))]))
      rw [own_succ]
      show own_Go p e below _ (T_3.setTop (mkF m 43 #[.val (.ref a1), .val (.int (Int32.ofNat i))] [(.int (Int32.ofNat (i + 1)))]))
      have hnx : own_nx cs i = (i + 1) := by exact own_nx1 hlt fun q _ _ => hhi q
      refine own_cast (g' := (mkF m 43 #[.val (.ref a1), .val (.int (Int32.ofNat i))] [(.int (Int32.ofNat (own_nx cs i)))])) (by rw [hnx]) ?_
      exact own_retv X_3 Bd.notSynchronized hx Bd.returns rfl (Or.inl ⟨rfl, (by simp), _, rfl⟩) (hb hby d3_43) (by decide) (by decide) (by rw [e_3]; exact ⟨rfl, N_3, rfl⟩)
  · refine own_via (fun _ => XS.icmpNo X0.here hx rfl (hb hby d3_3) rfl (flt (fun q => hlt ((own_lt (i := i) (j := cs.length) (by omega) (by omega)).mp q) : ¬ ((Int32.ofNat i) < (Int32.ofNat cs.length)))).1) ?_
    show own_Go p e below _ (s₁.setTop (mkF m 6 #[.val (.ref a1), .val (.int (Int32.ofNat i))] []))
    refine own_iloadN X0 hx (hb hby d3_6) (q := 7) rfl rfl ?_
    have hnx : own_nx cs i = i := by exact own_nx0 hlt
    refine own_cast (g' := (mkF m 7 #[.val (.ref a1), .val (.int (Int32.ofNat i))] [(.int (Int32.ofNat (own_nx cs i)))])) (by rw [hnx]) ?_
    exact own_retv X0 Bd.notSynchronized hx Bd.returns rfl (Or.inl ⟨rfl, (by simp), _, rfl⟩) (hb hby d3_7) (by decide) (by decide) (by rw [e0]; exact ⟨rfl, N0, rfl⟩)
theorem d10_0 : decode jdk_52_method_21_code 0 = .ok (.iconst 0, 1) := by decide +kernel
theorem d10_1 : decode jdk_52_method_21_code 1 = .ok (.istore 5, 2) := by decide +kernel
theorem d10_3 : decode jdk_52_method_21_code 3 = .ok (.iload 5, 2) := by decide +kernel
theorem d10_5 : decode jdk_52_method_21_code 5 = .ok (.iload 4, 2) := by decide +kernel
theorem d10_7 : decode jdk_52_method_21_code 7 = .ok (.if_icmp .ge 37, 3) := by decide +kernel
theorem d10_10 : decode jdk_52_method_21_code 10 = .ok (.aload_n 0, 1) := by decide +kernel
theorem d10_11 : decode jdk_52_method_21_code 11 = .ok (.iload_n 1, 1) := by decide +kernel
theorem d10_12 : decode jdk_52_method_21_code 12 = .ok (.caload, 1) := by decide +kernel
theorem d10_13 : decode jdk_52_method_21_code 13 = .ok (.istore 6, 2) := by decide +kernel
theorem d10_15 : decode jdk_52_method_21_code 15 = .ok (.iload 6, 2) := by decide +kernel
theorem d10_17 : decode jdk_52_method_21_code 17 = .ok (.sipush 255, 3) := by decide +kernel
theorem d10_20 : decode jdk_52_method_21_code 20 = .ok (.if_icmp .le 6, 3) := by decide +kernel
theorem d10_23 : decode jdk_52_method_21_code 23 = .ok (.iload 5, 2) := by decide +kernel
theorem d10_25 : decode jdk_52_method_21_code 25 = .ok (.ireturn, 1) := by decide +kernel
theorem d10_26 : decode jdk_52_method_21_code 26 = .ok (.aload_n 2, 1) := by decide +kernel
theorem d10_27 : decode jdk_52_method_21_code 27 = .ok (.iload_n 3, 1) := by decide +kernel
theorem d10_28 : decode jdk_52_method_21_code 28 = .ok (.iload 6, 2) := by decide +kernel
theorem d10_30 : decode jdk_52_method_21_code 30 = .ok (.i2b, 1) := by decide +kernel
theorem d10_31 : decode jdk_52_method_21_code 31 = .ok (.bastore, 1) := by decide +kernel
theorem d10_32 : decode jdk_52_method_21_code 32 = .ok (.iinc 1 1, 3) := by decide +kernel
theorem d10_35 : decode jdk_52_method_21_code 35 = .ok (.iinc 3 1, 3) := by decide +kernel
theorem d10_38 : decode jdk_52_method_21_code 38 = .ok (.iinc 5 1, 3) := by decide +kernel
theorem d10_41 : decode jdk_52_method_21_code 41 = .ok (.goto (-38), 3) := by decide +kernel
theorem d10_44 : decode jdk_52_method_21_code 44 = .ok (.iload 4, 2) := by decide +kernel
theorem d10_46 : decode jdk_52_method_21_code 46 = .ok (.ireturn, 1) := by decide +kernel
theorem pn_java_lang_StringUTF16 : plainName "java/lang/StringUTF16" = true := by first | (simp [plainName, overriddenIn]; done) | decide +kernel
theorem ef_cmp5c (m : MethodId) (a1 : Addr) (a2 : Addr) (cs : List Int32) : entryFrame m #[(.ref a1), (.int (0 : Int32)), (.ref a2), (.int (0 : Int32)), (.int (Int32.ofNat cs.length))] 7 = mkF m 0 #[.val (.ref a1), .val (.int (0 : Int32)), .val (.ref a2), .val (.int (0 : Int32)), .val (.int (Int32.ofNat cs.length)), .unset, .unset] [] := by first | (simp [entryFrame, mkF, argsToLocals, Value.category]; done) | rfl
def Qcmp5c (Z : State) (a1 : Addr) (k1 : ClassId) (cs : List Int32) (a2 : Addr) (k2 : ClassId) (h0 : Heap) (n0 : Nat) (v : Option Value) (h : Heap) (L : List Loc) : Prop := ∃ k : Nat, v = some (.int (Int32.ofNat k)) ∧ Fr n0 L ∧ Keep h0 h [a2] ∧ (own_F cs k) ∧ (Arv Z h a2 k2 .byte (Int32.ofNat cs.length) (own_low cs k) (.int (0 : Int32)))
theorem rmcmp5c (l : Launch) (Z : State) (a0 : Array Value) (hw : ∀ d ∈ tables_1, d.before a0 Z = true) (ws : List Jvm.Cond) (a1 : Addr) (k1 : ClassId) (cs : List Int32) (a2 : Addr) (k2 : ClassId) (h0 : Heap) (n0 : Nat) (Z0 : n0 ≤ h0.size) (A1 : Arv Z h0 a1 k1 .char (Int32.ofNat cs.length) (cs.map Value.int) (.int (0 : Int32))) (A2 : Arv Z h0 a2 k2 .byte (Int32.ofNat cs.length) (List.replicate cs.length (.int (0 : Int32))) (.int (0 : Int32))) (hl : cs.length ≤ 103) (ga : n0 ≤ a2) (ne : a1 ≠ a2) :
    MetFree l (⟨"java/lang/StringUTF16", "compress", "([CI[BII)I"⟩ : MethodName) (head1 (Jvm.Cond.code (⟨"java/lang/StringUTF16", "compress", "([CI[BII)I"⟩ : MethodName) jdk_52_method_21_code 7 (some .int) :: ws) ({ frames := 0, cells := 0, slots := 0, locals := 0 } : Room)) (fun a U => a = #[(.ref a1), (.int (0 : Int32)), (.ref a2), (.int (0 : Int32)), (.int (Int32.ofNat cs.length))] ∧ Z.Warmed39 U.vm ∧ U.heap = h0) (fun _ _ _ _ _ => True) (fun _ U o U' => ∃ v L, o = .returned v ∧ Qcmp5c Z a1 k1 cs a2 k2 h0 n0 v U'.heap L ∧ FrameEnd U o U' L ({ frames := 0, cells := 0, slots := 0, locals := 0 } : Room).cells ({ frames := 0, cells := 0, slots := 0, locals := 0 } : Room).slots) := by
  refine MetFree.of_bodySF (plainFor_of_name pn_java_lang_StringUTF16) hisR ?_
  intro p e s m args below meth c s₁ Bd hml0 hP hK
  obtain ⟨rfl, hZ, hH0⟩ := hP
  have hx := Bd.exec
  have hby := Bd.bytes
  have hml : c.maxLocals = 7 := hml0
  have hown : s.vm.findClass "java/lang/StringUTF16" = some m.cls := findClass_of_methodNamed Bd.named
  have hnm := (name_of_methodNamed Bd.named Bd.method).1
  have X0 : Stand p l e ({ frames := 0, cells := 0, slots := 0, locals := 0 } : Room) s m #[(.ref a1), (.int (0 : Int32)), (.ref a2), (.int (0 : Int32)), (.int (Int32.ofNat cs.length))] below meth c s₁ [] 0 0 := Stand.of_body Bd
  have e0 : s₁.heap = h0 := by rw [← hH0, Bd.state]; rfl
  have N0 := Fr.nil n0
  refine own_cast (ef_cmp5c m a1 a2 cs) ?_
  show own_Go p e below (fun o U' => ∃ v L, o = .returned v ∧ Qcmp5c Z a1 k1 cs a2 k2 h0 n0 v U'.heap L ∧ FrameEnd s o U' L ({ frames := 0, cells := 0, slots := 0, locals := 0 } : Room).cells ({ frames := 0, cells := 0, slots := 0, locals := 0 } : Room).slots) (s₁.setTop (mkF m 0 #[.val (.ref a1), .val (.int (0 : Int32)), .val (.ref a2), .val (.int (0 : Int32)), .val (.int (Int32.ofNat cs.length)), .unset, .unset] []))
  refine own_iconst X0 hx (hb hby d10_0) (q := 1) (z := (0 : Int32)) rfl rfl ?_
  refine own_via (fun _ => XS.istore X0.here hx rfl (hb hby d10_1) rfl (l' := #[.val (.ref a1), .val (.int (0 : Int32)), .val (.ref a2), .val (.int (0 : Int32)), .val (.int (Int32.ofNat cs.length)), .val (.int (0 : Int32)), .unset]) rfl) ?_
  show own_Go p e below _ (s₁.setTop (mkF m 3 #[.val (.ref a1), .val (.int (0 : Int32)), .val (.ref a2), .val (.int (0 : Int32)), .val (.int (Int32.ofNat cs.length)), .val (.int (0 : Int32)), .unset] []))
  have A2' : Arv Z h0 a2 k2 .byte (Int32.ofNat cs.length) (own_low cs 0) (.int (0 : Int32)) := own_low0 cs ▸ A2
  have loop_1 : ∀ (f_2 : Nat) (T_3 : State) (L_4 : List Loc) (i : Nat) (s6_2 : Slot) (o6_2 : One s6_2) (hno : ∀ j, j < i → ¬ (255 : Int32) < cs.getD j 0) (hi : i ≤ cs.length) (X_2 : Stand p l e ({ frames := 0, cells := 0, slots := 0, locals := 0 } : Room) s m #[(.ref a1), (.int (0 : Int32)), (.ref a2), (.int (0 : Int32)), (.int (Int32.ofNat cs.length))] below meth c T_3 L_4 0 0) (h_5 : Heap) (e_2 : T_3.heap = h_5) (K_2 : Keep h0 h_5 [a2]) (Ai : Arv Z h_5 a2 k2 .byte (Int32.ofNat cs.length) (own_low cs i) (.int (0 : Int32))) (N_2 : Fr n0 L_4) (hf_2 : cs.length - i = f_2), own_Go p e below (fun o U' => ∃ v L, o = .returned v ∧ Qcmp5c Z a1 k1 cs a2 k2 h0 n0 v U'.heap L ∧ FrameEnd s o U' L ({ frames := 0, cells := 0, slots := 0, locals := 0 } : Room).cells ({ frames := 0, cells := 0, slots := 0, locals := 0 } : Room).slots) (T_3.setTop (mkF m 3 #[.val (.ref a1), .val (.int (Int32.ofNat i)), .val (.ref a2), .val (.int (Int32.ofNat i)), .val (.int (Int32.ofNat cs.length)), .val (.int (Int32.ofNat i)), s6_2] [])) := by
    intro f_2
    induction f_2 using Nat.strongRecOn with
    | _ f_2 ih_2 =>
      intro T_3 L_4 i s6_2 o6_2 hno hi X_2 h_5 e_2 K_2 Ai N_2 hf_2
      show own_Go p e below _ (T_3.setTop (mkF m 3 #[.val (.ref a1), .val (.int (Int32.ofNat i)), .val (.ref a2), .val (.int (Int32.ofNat i)), .val (.int (Int32.ofNat cs.length)), .val (.int (Int32.ofNat i)), s6_2] []))
      refine own_iload X_2 hx (hb hby d10_3) (q := 5) rfl rfl ?_
      refine own_iload X_2 hx (hb hby d10_5) (q := 7) rfl rfl ?_
      by_cases hlt : i < cs.length
      · refine own_via (fun _ => XS.icmpNo X_2.here hx rfl (hb hby d10_7) rfl (tlt ((own_lt (i := i) (j := cs.length) (by omega) (by omega)).mpr hlt : (Int32.ofNat i) < (Int32.ofNat cs.length))).2.1) ?_
        show own_Go p e below _ (T_3.setTop (mkF m 10 #[.val (.ref a1), .val (.int (Int32.ofNat i)), .val (.ref a2), .val (.int (Int32.ofNat i)), .val (.int (Int32.ofNat cs.length)), .val (.int (Int32.ofNat i)), s6_2] []))
        refine own_aloadN X_2 hx (hb hby d10_10) (q := 11) rfl rfl rfl ?_
        refine own_iloadN X_2 hx (hb hby d10_11) (q := 12) rfl rfl ?_
        have K_7 : Keep h0 h_5 [a2] := Keep.trans (ws := [a2]) (own_keep_mono (Keep.refl h0 []) (by simp)) K_2 (allS (Or.inl (List.mem_of_getElem? (i := 0) rfl)) all0)
        obtain ⟨cl_6, Ar_6, q_6, S_6, M_6, H_6, G_6⟩ := (id (A1.keep K_7 (ninS ne nin0)))
        have ib_6 := own_inbs (n := cs.length) (i := i) S_6 (by omega) (by omega)
        refine own_via (X_2.caload hx (j := Int32.ofNat i) (v := .int (cs.getD i 0)) (by rw [e_2]; exact Ar_6.1) (State.isArrayOf_alike hZ.alike Ar_6.2.1) Ar_6.2.2 ib_6 (Has.at H_6 ib_6 (own_getD (by omega))) (g := (mkF m 12 #[.val (.ref a1), .val (.int (Int32.ofNat i)), .val (.ref a2), .val (.int (Int32.ofNat i)), .val (.int (Int32.ofNat cs.length)), .val (.int (Int32.ofNat i)), s6_2] [(.int (Int32.ofNat i)), (.ref a1)])) rfl rfl (hb hby d10_12)) ?_
        show own_Go p e below _ (T_3.setTop (mkF m 13 #[.val (.ref a1), .val (.int (Int32.ofNat i)), .val (.ref a2), .val (.int (Int32.ofNat i)), .val (.int (Int32.ofNat cs.length)), .val (.int (Int32.ofNat i)), s6_2] [(.int (cs.getD i 0))]))
        refine own_via (fun _ => XS.istoreS X_2.here hx rfl (hb hby d10_13) rfl rfl o6_2) ?_
        show own_Go p e below _ (T_3.setTop (mkF m 15 #[.val (.ref a1), .val (.int (Int32.ofNat i)), .val (.ref a2), .val (.int (Int32.ofNat i)), .val (.int (Int32.ofNat cs.length)), .val (.int (Int32.ofNat i)), .val (.int (cs.getD i 0))] []))
        refine own_iload X_2 hx (hb hby d10_15) (q := 17) rfl rfl ?_
        refine own_sipush X_2 hx (hb hby d10_17) (q := 20) (z := (255 : Int32)) rfl rfl ?_
        by_cases hbig : (255 : Int32) < (cs.getD i 0)
        · refine own_via (fun _ => XS.icmpNo X_2.here hx rfl (hb hby d10_20) rfl (tlt (hbig : (255 : Int32) < (cs.getD i 0))).2.2.2) ?_
          show own_Go p e below _ (T_3.setTop (mkF m 23 #[.val (.ref a1), .val (.int (Int32.ofNat i)), .val (.ref a2), .val (.int (Int32.ofNat i)), .val (.int (Int32.ofNat cs.length)), .val (.int (Int32.ofNat i)), .val (.int (cs.getD i 0))] []))
          refine own_iload X_2 hx (hb hby d10_23) (q := 25) rfl rfl ?_
          exact own_retv X_2 Bd.notSynchronized hx Bd.returns rfl (Or.inl ⟨rfl, (by simp), _, rfl⟩) (hb hby d10_25) (by decide) (by decide) (by rw [e_2]; exact ⟨i, rfl, N_2, K_7, ⟨by omega, hno, fun _ => hbig⟩, Ai⟩)
        · refine own_via (fun _ => XS.icmpYes X_2.here hx rfl (pc0 := 20) (pc' := 26) rfl (hb hby d10_20) rfl (flt (hbig : ¬ ((255 : Int32) < (cs.getD i 0)))).2.2.2 (by decide) (by decide)) ?_
          show own_Go p e below _ (T_3.setTop (mkF m 26 #[.val (.ref a1), .val (.int (Int32.ofNat i)), .val (.ref a2), .val (.int (Int32.ofNat i)), .val (.int (Int32.ofNat cs.length)), .val (.int (Int32.ofNat i)), .val (.int (cs.getD i 0))] []))
          refine own_aloadN X_2 hx (hb hby d10_26) (q := 27) rfl rfl rfl ?_
          refine own_iloadN X_2 hx (hb hby d10_27) (q := 28) rfl rfl ?_
          refine own_iload X_2 hx (hb hby d10_28) (q := 30) rfl rfl ?_
          refine own_via (fun _ => XS.i2b X_2.here hx rfl (hb hby d10_30) rfl) ?_
          show own_Go p e below _ (T_3.setTop (mkF m 31 #[.val (.ref a1), .val (.int (Int32.ofNat i)), .val (.ref a2), .val (.int (Int32.ofNat i)), .val (.int (Int32.ofNat cs.length)), .val (.int (Int32.ofNat i)), .val (.int (cs.getD i 0))] [(.int ((cs.getD i 0).toInt8.toInt32)), (.int (Int32.ofNat i)), (.ref a2)]))
          obtain ⟨cl_8, Ar_8, q_8, S_8, M_8, H_8, G_8⟩ := (id Ai)
          have ib_8 := own_inbs (n := cs.length) (i := i) S_8 (by omega) (by omega)
          obtain ⟨T_8, h_8, X_8, e_8, W_8, st_8⟩ := stB X_2 hx hZ e_2 Ar_8 (j := Int32.ofNat i) ib_8 (g := (mkF m 31 #[.val (.ref a1), .val (.int (Int32.ofNat i)), .val (.ref a2), .val (.int (Int32.ofNat i)), .val (.int (Int32.ofNat cs.length)), .val (.int (Int32.ofNat i)), .val (.int (cs.getD i 0))] [(.int ((cs.getD i 0).toInt8.toInt32)), (.int (Int32.ofNat i)), (.ref a2)])) rfl rfl (hb hby d10_31)
          have V_8 : Arv Z h_8 a2 k2 .byte (Int32.ofNat cs.length) ((own_low cs i).set i (.int (nar .byte ((cs.getD i 0).toInt8.toInt32)))) (.int (0 : Int32)) := Arv.set Ar_8 q_8 S_8 M_8 H_8 G_8 (fits_nar_byte _) W_8 i (own_clamp (by omega)) (by rw [own_lowlen]; omega)
          have V_8' : Arv Z h_8 a2 k2 .byte (Int32.ofNat cs.length) (own_low cs (i + 1)) (.int (0 : Int32)) := by have q := V_8; rwa [own_nb, own_lowset hlt] at q
          have N_8 := Fr.snoc X_8 N_2 ga
          refine own_via st_8 ?_
          show own_Go p e below _ (T_8.setTop (mkF m 32 #[.val (.ref a1), .val (.int (Int32.ofNat i)), .val (.ref a2), .val (.int (Int32.ofNat i)), .val (.int (Int32.ofNat cs.length)), .val (.int (Int32.ofNat i)), .val (.int (cs.getD i 0))] []))
          refine own_via (fun _ => XS.iinc X_8.here hx rfl (hb hby d10_32) rfl (l' := #[.val (.ref a1), .val (.int ((Int32.ofNat i) + (1 : Int32))), .val (.ref a2), .val (.int (Int32.ofNat i)), .val (.int (Int32.ofNat cs.length)), .val (.int (Int32.ofNat i)), .val (.int (cs.getD i 0))]) rfl) ?_
          show own_Go p e below _ (T_8.setTop (mkF m 35 #[.val (.ref a1), .val (.int ((Int32.ofNat i) + (1 : Int32))), .val (.ref a2), .val (.int (Int32.ofNat i)), .val (.int (Int32.ofNat cs.length)), .val (.int (Int32.ofNat i)), .val (.int (cs.getD i 0))] []))
          rw [own_succ]
          show own_Go p e below _ (T_8.setTop (mkF m 35 #[.val (.ref a1), .val (.int (Int32.ofNat (i + 1))), .val (.ref a2), .val (.int (Int32.ofNat i)), .val (.int (Int32.ofNat cs.length)), .val (.int (Int32.ofNat i)), .val (.int (cs.getD i 0))] []))
          refine own_via (fun _ => XS.iinc X_8.here hx rfl (hb hby d10_35) rfl (l' := #[.val (.ref a1), .val (.int (Int32.ofNat (i + 1))), .val (.ref a2), .val (.int ((Int32.ofNat i) + (1 : Int32))), .val (.int (Int32.ofNat cs.length)), .val (.int (Int32.ofNat i)), .val (.int (cs.getD i 0))]) rfl) ?_
          show own_Go p e below _ (T_8.setTop (mkF m 38 #[.val (.ref a1), .val (.int (Int32.ofNat (i + 1))), .val (.ref a2), .val (.int ((Int32.ofNat i) + (1 : Int32))), .val (.int (Int32.ofNat cs.length)), .val (.int (Int32.ofNat i)), .val (.int (cs.getD i 0))] []))
          rw [own_succ]
          show own_Go p e below _ (T_8.setTop (mkF m 38 #[.val (.ref a1), .val (.int (Int32.ofNat (i + 1))), .val (.ref a2), .val (.int (Int32.ofNat (i + 1))), .val (.int (Int32.ofNat cs.length)), .val (.int (Int32.ofNat i)), .val (.int (cs.getD i 0))] []))
          refine own_via (fun _ => XS.iinc X_8.here hx rfl (hb hby d10_38) rfl (l' := #[.val (.ref a1), .val (.int (Int32.ofNat (i + 1))), .val (.ref a2), .val (.int (Int32.ofNat (i + 1))), .val (.int (Int32.ofNat cs.length)), .val (.int ((Int32.ofNat i) + (1 : Int32))), .val (.int (cs.getD i 0))]) rfl) ?_
          show own_Go p e below _ (T_8.setTop (mkF m 41 #[.val (.ref a1), .val (.int (Int32.ofNat (i + 1))), .val (.ref a2), .val (.int (Int32.ofNat (i + 1))), .val (.int (Int32.ofNat cs.length)), .val (.int ((Int32.ofNat i) + (1 : Int32))), .val (.int (cs.getD i 0))] []))
          rw [own_succ]
          show own_Go p e below _ (T_8.setTop (mkF m 41 #[.val (.ref a1), .val (.int (Int32.ofNat (i + 1))), .val (.ref a2), .val (.int (Int32.ofNat (i + 1))), .val (.int (Int32.ofNat cs.length)), .val (.int (Int32.ofNat (i + 1))), .val (.int (cs.getD i 0))] []))
          refine own_via (fun _ => XS.goto X_8.here hx rfl (pc0 := 41) (pc' := 3) rfl (hb hby d10_41) (by decide) (by decide)) ?_
          show own_Go p e below _ (T_8.setTop (mkF m 3 #[.val (.ref a1), .val (.int (Int32.ofNat (i + 1))), .val (.ref a2), .val (.int (Int32.ofNat (i + 1))), .val (.int (Int32.ofNat cs.length)), .val (.int (Int32.ofNat (i + 1))), .val (.int (cs.getD i 0))] []))
          have K_9 : Keep h0 h_8 [a2] := Keep.wr (ws := [a2]) K_7 W_8 (Or.inl (List.mem_of_getElem? (i := 0) rfl))
          exact ih_2 (cs.length - (i + 1)) (by omega) _ _ (i + 1) _ (One.val rfl) (fun j hj => (Nat.lt_succ_iff_lt_or_eq.mp hj).elim (hno j) fun q => q ▸ hbig) (by omega) X_8 _ e_8 K_9 V_8' N_8 rfl
      · refine own_via (fun _ => XS.icmpYes X_2.here hx rfl (pc0 := 7) (pc' := 44) rfl (hb hby d10_7) rfl (flt (fun q => hlt ((own_lt (i := i) (j := cs.length) (by omega) (by omega)).mp q) : ¬ ((Int32.ofNat i) < (Int32.ofNat cs.length)))).2.1 (by decide) (by decide)) ?_
        show own_Go p e below _ (T_3.setTop (mkF m 44 #[.val (.ref a1), .val (.int (Int32.ofNat i)), .val (.ref a2), .val (.int (Int32.ofNat i)), .val (.int (Int32.ofNat cs.length)), .val (.int (Int32.ofNat i)), s6_2] []))
        obtain rfl : i = cs.length := by omega
        refine own_iload X_2 hx (hb hby d10_44) (q := 46) rfl rfl ?_
        have K_10 : Keep h0 h_5 [a2] := Keep.trans (ws := [a2]) (own_keep_mono (Keep.refl h0 []) (by simp)) K_2 (allS (Or.inl (List.mem_of_getElem? (i := 0) rfl)) all0)
        exact own_retv X_2 Bd.notSynchronized hx Bd.returns rfl (Or.inl ⟨rfl, (by simp), _, rfl⟩) (hb hby d10_46) (by decide) (by decide) (by rw [e_2]; exact ⟨cs.length, rfl, N_2, K_10, ⟨Nat.le_refl _, hno, fun q => absurd q (Nat.lt_irrefl _)⟩, Ai⟩)
  exact loop_1 (cs.length - 0) _ _ 0 _ One.u (fun j hj => absurd hj (Nat.not_lt_zero j)) (Nat.zero_le _) X0 _ e0 (own_keep_mono (Keep.refl h0 []) (by simp)) A2' N0 rfl
theorem d13_0 : decode jdk_52_method_3_code 0 = .ok (.iload_n 0, 1) := by decide +kernel
theorem d13_1 : decode jdk_52_method_3_code 1 = .ok (.ifCond .ge 11, 3) := by decide +kernel
theorem d13_12 : decode jdk_52_method_3_code 12 = .ok (.iload_n 0, 1) := by decide +kernel
theorem d13_13 : decode jdk_52_method_3_code 13 = .ok (.ldc 20, 2) := by decide +kernel
theorem d13_15 : decode jdk_52_method_3_code 15 = .ok (.if_icmp .lt 40, 3) := by decide +kernel
theorem d13_55 : decode jdk_52_method_3_code 55 = .ok (.iload_n 0, 1) := by decide +kernel
theorem d13_56 : decode jdk_52_method_3_code 56 = .ok (.iconst 1, 1) := by decide +kernel
theorem d13_57 : decode jdk_52_method_3_code 57 = .ok (.ishl, 1) := by decide +kernel
theorem d13_58 : decode jdk_52_method_3_code 58 = .ok (.ireturn, 1) := by decide +kernel
theorem ef_nbl (m : MethodId) (n : Nat) : entryFrame m #[(.int (Int32.ofNat n))] 1 = mkF m 0 #[.val (.int (Int32.ofNat n))] [] := by first | (simp [entryFrame, mkF, argsToLocals, Value.category]; done) | rfl
def Qnbl (Z : State) (n : Nat) (h0 : Heap) (n0 : Nat) (v : Option Value) (h : Heap) (L : List Loc) : Prop := v = some (.int (Int32.ofNat (2 * n))) ∧ Fr n0 L ∧ h = h0
theorem rmnbl (l : Launch) (Z : State) (a0 : Array Value) (hw : ∀ d ∈ tables_1, d.before a0 Z = true) (ws : List Jvm.Cond) (n : Nat) (h0 : Heap) (n0 : Nat) (Z0 : n0 ≤ h0.size) (hn : n ≤ 103) :
    MetFree l (⟨"java/lang/StringUTF16", "newBytesLength", "(I)I"⟩ : MethodName) (head1 (Jvm.Cond.code (⟨"java/lang/StringUTF16", "newBytesLength", "(I)I"⟩ : MethodName) jdk_52_method_3_code 1 (some .int) :: ws) ({ frames := 0, cells := 0, slots := 0, locals := 0 } : Room)) (fun a U => a = #[(.int (Int32.ofNat n))] ∧ Z.Warmed39 U.vm ∧ U.heap = h0) (fun _ _ _ _ _ => True) (fun _ U o U' => ∃ v L, o = .returned v ∧ Qnbl Z n h0 n0 v U'.heap L ∧ FrameEnd U o U' L ({ frames := 0, cells := 0, slots := 0, locals := 0 } : Room).cells ({ frames := 0, cells := 0, slots := 0, locals := 0 } : Room).slots) := by
  refine MetFree.of_bodySF (plainFor_of_name pn_java_lang_StringUTF16) hisR ?_
  intro p e s m args below meth c s₁ Bd hml0 hP hK
  obtain ⟨rfl, hZ, hH0⟩ := hP
  have hx := Bd.exec
  have hby := Bd.bytes
  have hml : c.maxLocals = 1 := hml0
  have hown : s.vm.findClass "java/lang/StringUTF16" = some m.cls := findClass_of_methodNamed Bd.named
  have hnm := (name_of_methodNamed Bd.named Bd.method).1
  have X0 : Stand p l e ({ frames := 0, cells := 0, slots := 0, locals := 0 } : Room) s m #[(.int (Int32.ofNat n))] below meth c s₁ [] 0 0 := Stand.of_body Bd
  have e0 : s₁.heap = h0 := by rw [← hH0, Bd.state]; rfl
  have N0 := Fr.nil n0
  refine own_cast (ef_nbl m n) ?_
  show own_Go p e below (fun o U' => ∃ v L, o = .returned v ∧ Qnbl Z n h0 n0 v U'.heap L ∧ FrameEnd s o U' L ({ frames := 0, cells := 0, slots := 0, locals := 0 } : Room).cells ({ frames := 0, cells := 0, slots := 0, locals := 0 } : Room).slots) (s₁.setTop (mkF m 0 #[.val (.int (Int32.ofNat n))] []))
  refine own_iloadN X0 hx (hb hby d13_0) (q := 1) rfl rfl ?_
  refine own_via (fun _ => XS.ifYes X0.here hx rfl (pc0 := 1) (pc' := 12) rfl (hb hby d13_1) rfl ((if0 _ _).trans (flt (own_nn (by omega) : ¬ ((Int32.ofNat n) < (0 : Int32)))).2.1) (by decide) (by decide)) ?_
  show own_Go p e below _ (s₁.setTop (mkF m 12 #[.val (.int (Int32.ofNat n))] []))
  refine own_iloadN X0 hx (hb hby d13_12) (q := 13) rfl rfl ?_
  refine own_via (X0.ldcInt hx hown (mvT hZ (own_w hw 53 rfl)) (g := (mkF m 13 #[.val (.int (Int32.ofNat n))] [(.int (Int32.ofNat n))])) rfl (hb hby d13_13)) ?_
  show own_Go p e below _ (s₁.setTop (mkF m 15 #[.val (.int (Int32.ofNat n))] [(.int (1073741823 : Int32)), (.int (Int32.ofNat n))]))
  refine own_via (fun _ => XS.icmpYes X0.here hx rfl (pc0 := 15) (pc' := 55) rfl (hb hby d13_15) rfl (tlt ((own_lt (i := n) (j := 1073741823) (by omega) (by omega)).mpr (by omega) : (Int32.ofNat n) < (1073741823 : Int32))).1 (by decide) (by decide)) ?_
  show own_Go p e below _ (s₁.setTop (mkF m 55 #[.val (.int (Int32.ofNat n))] []))
  refine own_iloadN X0 hx (hb hby d13_55) (q := 56) rfl rfl ?_
  refine own_iconst X0 hx (hb hby d13_56) (q := 57) (z := (1 : Int32)) rfl rfl ?_
  refine own_via (fun _ => XS.ishl X0.here hx rfl (hb hby d13_57) rfl) ?_
  show own_Go p e below _ (s₁.setTop (mkF m 58 #[.val (.int (Int32.ofNat n))] [(.int ((Int32.ofNat n) <<< ((1 : Int32) &&& 31)))]))
  rw [own_shl1 n hn]
  show own_Go p e below _ (s₁.setTop (mkF m 58 #[.val (.int (Int32.ofNat n))] [(.int (Int32.ofNat (2 * n)))]))
  exact own_retv X0 Bd.notSynchronized hx Bd.returns rfl (Or.inl ⟨rfl, (by simp), _, rfl⟩) (hb hby d13_58) (by decide) (by decide) (by rw [e0]; exact ⟨rfl, N0, rfl⟩)
theorem d12_0 : decode jdk_52_method_2_code 0 = .ok (.iload_n 0, 1) := by decide +kernel
theorem d12_1 : decode jdk_52_method_2_code 1 = .ok (.invokestatic 11, 3) := by decide +kernel
theorem d12_4 : decode jdk_52_method_2_code 4 = .ok (.newarray .byte, 2) := by decide +kernel
theorem d12_6 : decode jdk_52_method_2_code 6 = .ok (.areturn, 1) := by decide +kernel
theorem pd_1 : parseMethodDescriptor "(I)I" = some ⟨[.int], some .int⟩ := by decide +kernel
theorem ef_nbf (m : MethodId) (n : Nat) : entryFrame m #[(.int (Int32.ofNat n))] 1 = mkF m 0 #[.val (.int (Int32.ofNat n))] [] := by first | (simp [entryFrame, mkF, argsToLocals, Value.category]; done) | rfl
def Qnbf (Z : State) (n : Nat) (h0 : Heap) (n0 : Nat) (v : Option Value) (h : Heap) (L : List Loc) : Prop := ∃ r : Addr, ∃ k : ClassId, v = some (.ref r) ∧ Fr n0 L ∧ Keep h0 h [] ∧ (h0.size ≤ r) ∧ (Arv Z h r k .byte (Int32.ofNat (2 * n)) (List.replicate (2 * n) (.int (0 : Int32))) (.int (0 : Int32)))
theorem rmnbf (l : Launch) (Z : State) (a0 : Array Value) (hw : ∀ d ∈ tables_1, d.before a0 Z = true) (ws : List Jvm.Cond) (n : Nat) (h0 : Heap) (n0 : Nat) (Z0 : n0 ≤ h0.size) (hn : n ≤ 103) :
    MetFree l (⟨"java/lang/StringUTF16", "newBytesFor", "(I)[B"⟩ : MethodName) (head1 (Jvm.Cond.code (⟨"java/lang/StringUTF16", "newBytesFor", "(I)[B"⟩ : MethodName) jdk_52_method_2_code 1 (some (.array .byte)) :: ws) ({ frames := 1, cells := 1, slots := 206, locals := 13 } : Room)) (fun a U => a = #[(.int (Int32.ofNat n))] ∧ Z.Warmed39 U.vm ∧ U.heap = h0) (fun _ _ _ _ _ => True) (fun _ U o U' => ∃ v L, o = .returned v ∧ Qnbf Z n h0 n0 v U'.heap L ∧ FrameEnd U o U' L ({ frames := 1, cells := 1, slots := 206, locals := 13 } : Room).cells ({ frames := 1, cells := 1, slots := 206, locals := 13 } : Room).slots) := by
  refine MetFree.of_bodySF (plainFor_of_name pn_java_lang_StringUTF16) hisR ?_
  intro p e s m args below meth c s₁ Bd hml0 hP hK
  obtain ⟨rfl, hZ, hH0⟩ := hP
  have hx := Bd.exec
  have hby := Bd.bytes
  have hml : c.maxLocals = 1 := hml0
  have hown : s.vm.findClass "java/lang/StringUTF16" = some m.cls := findClass_of_methodNamed Bd.named
  have hnm := (name_of_methodNamed Bd.named Bd.method).1
  have X0 : Stand p l e ({ frames := 1, cells := 1, slots := 206, locals := 13 } : Room) s m #[(.int (Int32.ofNat n))] below meth c s₁ [] 0 0 := Stand.of_body Bd
  have e0 : s₁.heap = h0 := by rw [← hH0, Bd.state]; rfl
  have N0 := Fr.nil n0
  refine own_cast (ef_nbf m n) ?_
  show own_Go p e below (fun o U' => ∃ v L, o = .returned v ∧ Qnbf Z n h0 n0 v U'.heap L ∧ FrameEnd s o U' L ({ frames := 1, cells := 1, slots := 206, locals := 13 } : Room).cells ({ frames := 1, cells := 1, slots := 206, locals := 13 } : Room).slots) (s₁.setTop (mkF m 0 #[.val (.int (Int32.ofNat n))] []))
  refine own_iloadN X0 hx (hb hby d12_0) (q := 1) rfl rfl ?_
  obtain ⟨_, _, ⟨T_1, L_1, k_1, n_1⟩, -, X_1, ⟨Lc_1, hQ_1, l_1, y_1, z_1⟩, st_1⟩ := Jvm.LawKit.callS X0 hx (y := (⟨"java/lang/StringUTF16", "newBytesLength", "(I)I"⟩ : MethodName)) hown (mvT hZ (own_w hw 50 rfl)) (mvT hZ (own_w hw 51 rfl)) (mvT hZ (own_w hw 38 rfl)) (mvT hZ (own_w hw 52 rfl)) (by decide) (backOf (W := 0) (rmnbl l Z a0 hw [] n h0 n0 Z0 hn) hZ (own_w hw 52 rfl) (own_w hw 38 rfl) (by decide) (by decide)) (g := (mkF m 1 #[.val (.int (Int32.ofNat n))] [(.int (Int32.ofNat n))])) rfl (by rw [hml]; rfl) (argsL := [(.int (Int32.ofNat n))]) (rest := []) (lenOf pd_1 rfl) rfl (by show 2 * 0 + _ ≤ _; exact Nat.le_of_eq rfl) (hb hby d12_1) (fun _ _ => ⟨rfl, e0, (by decide : 0 + 0 ≤ _), (by decide : 0 + 0 ≤ _)⟩)
  dsimp only [Pt.U, Pt.locs, Pt.cells, Pt.slots] at X_1 l_1 y_1 z_1 st_1 hQ_1
  subst l_1 y_1 z_1
  obtain ⟨rfl, Nq_1, e_1⟩ := hQ_1
  have N_1 := Fr.app N0 Nq_1
  refine own_via st_1 ?_
  show own_Go p e below _ (T_1.setTop (mkF m 4 #[.val (.int (Int32.ofNat n))] [(.int (Int32.ofNat (2 * n)))]))
  obtain ⟨T_2, h_2, k_2, X_2, e_2, E_2, A_2, st_2⟩ := newP X_1 hx hZ (own_w hw 40 rfl) e_1 (g := (mkF m 4 #[.val (.int (Int32.ofNat n))] [(.int (Int32.ofNat (2 * n)))])) rfl (hb hby d12_4) rfl (own_nn (by omega)) (cap := 206) (by rw [own_clamp (by omega)]; omega) (by decide) (by decide) (by decide)
  obtain ⟨b_2, g_2⟩ : ∃ z, z = h0.size := ⟨_, rfl⟩
  rw [← g_2] at A_2 st_2
  have V_2 : Arv Z h_2 b_2 k_2 .byte (Int32.ofNat (2 * n)) [] (.int (0 : Int32)) := Arv.new A_2 (own_nn (by omega))
  refine own_via st_2 ?_
  show own_Go p e below _ (T_2.setTop (mkF m 6 #[.val (.int (Int32.ofNat n))] [(.ref b_2)]))
  have V_3 : Arv Z h_2 b_2 k_2 .byte (Int32.ofNat (2 * n)) (List.replicate (2 * n) (.int (0 : Int32))) (.int (0 : Int32)) := V_2.pad (pad_rep [] (.int (0 : Int32)) (2 * n))
  have K_4 : Keep h0 h_2 [] := (Keep.refl h0 []).ext E_2
  exact own_retv X_2 Bd.notSynchronized hx Bd.returns rfl (Or.inr (Or.inr (Or.inr (Or.inr ⟨rfl, rfl, rfl⟩)))) (hb hby d12_6) (by decide) (by decide) (by rw [e_2]; exact ⟨b_2, k_2, rfl, N_1, K_4, (Nat.le_of_eq g_2.symm), V_3⟩)
theorem d15_0 : decode jdk_52_method_5_code 0 = .ok (.getstatic 44, 3) := by decide +kernel
theorem d15_3 : decode jdk_52_method_5_code 3 = .ok (.ifCond .ne 25, 3) := by decide +kernel
theorem d15_28 : decode jdk_52_method_5_code 28 = .ok (.iload_n 1, 1) := by decide +kernel
theorem d15_29 : decode jdk_52_method_5_code 29 = .ok (.iconst 1, 1) := by decide +kernel
theorem d15_30 : decode jdk_52_method_5_code 30 = .ok (.ishl, 1) := by decide +kernel
theorem d15_31 : decode jdk_52_method_5_code 31 = .ok (.istore_n 1, 1) := by decide +kernel
theorem d15_32 : decode jdk_52_method_5_code 32 = .ok (.aload_n 0, 1) := by decide +kernel
theorem d15_33 : decode jdk_52_method_5_code 33 = .ok (.iload_n 1, 1) := by decide +kernel
theorem d15_34 : decode jdk_52_method_5_code 34 = .ok (.iinc 1 1, 3) := by decide +kernel
theorem d15_37 : decode jdk_52_method_5_code 37 = .ok (.baload, 1) := by decide +kernel
theorem d15_38 : decode jdk_52_method_5_code 38 = .ok (.sipush 255, 3) := by decide +kernel
theorem d15_41 : decode jdk_52_method_5_code 41 = .ok (.iand, 1) := by decide +kernel
theorem d15_42 : decode jdk_52_method_5_code 42 = .ok (.getstatic 59, 3) := by decide +kernel
theorem d15_45 : decode jdk_52_method_5_code 45 = .ok (.ishl, 1) := by decide +kernel
theorem d15_46 : decode jdk_52_method_5_code 46 = .ok (.aload_n 0, 1) := by decide +kernel
theorem d15_47 : decode jdk_52_method_5_code 47 = .ok (.iload_n 1, 1) := by decide +kernel
theorem d15_48 : decode jdk_52_method_5_code 48 = .ok (.baload, 1) := by decide +kernel
theorem d15_49 : decode jdk_52_method_5_code 49 = .ok (.sipush 255, 3) := by decide +kernel
theorem d15_52 : decode jdk_52_method_5_code 52 = .ok (.iand, 1) := by decide +kernel
theorem d15_53 : decode jdk_52_method_5_code 53 = .ok (.getstatic 63, 3) := by decide +kernel
theorem d15_56 : decode jdk_52_method_5_code 56 = .ok (.ishl, 1) := by decide +kernel
theorem d15_57 : decode jdk_52_method_5_code 57 = .ok (.ior, 1) := by decide +kernel
theorem d15_58 : decode jdk_52_method_5_code 58 = .ok (.i2c, 1) := by decide +kernel
theorem d15_59 : decode jdk_52_method_5_code 59 = .ok (.ireturn, 1) := by decide +kernel
theorem pd_2 : parseMethodDescriptor "([B)I" = some ⟨[(.array .byte)], some .int⟩ := by decide +kernel
theorem ef_getChar (m : MethodId) (a1 : Addr) (i : Nat) : entryFrame m #[(.ref a1), (.int (Int32.ofNat i))] 2 = mkF m 0 #[.val (.ref a1), .val (.int (Int32.ofNat i))] [] := by first | (simp [entryFrame, mkF, argsToLocals, Value.category]; done) | rfl
def QgetChar (Z : State) (a1 : Addr) (k1 : ClassId) (cs : List Int32) (i : Nat) (h0 : Heap) (n0 : Nat) (v : Option Value) (h : Heap) (L : List Loc) : Prop := v = some (.int (cs.getD i 0)) ∧ Fr n0 L ∧ h = h0
theorem rmgetChar (l : Launch) (Z : State) (a0 : Array Value) (hw : ∀ d ∈ tables_1, d.before a0 Z = true) (ws : List Jvm.Cond) (a1 : Addr) (k1 : ClassId) (cs : List Int32) (i : Nat) (h0 : Heap) (n0 : Nat) (Z0 : n0 ≤ h0.size) (O0 : Old Z n0 h0) (Sad : Sta Z Z.heap "java/lang/StringUTF16" "$assertionsDisabled" "Z" (.int (1 : Int32))) (Shi : Sta Z Z.heap "java/lang/StringUTF16" "HI_BYTE_SHIFT" "I" (.int (0 : Int32))) (Slo : Sta Z Z.heap "java/lang/StringUTF16" "LO_BYTE_SHIFT" "I" (.int (8 : Int32))) (A1 : Arv Z h0 a1 k1 .byte (Int32.ofNat (2 * cs.length)) (wideBytes cs) (.int (0 : Int32))) (hl : cs.length ≤ 103) (hi : i < cs.length) (hbd : ∀ c ∈ cs, ¬ c < 0 ∧ ¬ (65535 : Int32) < c) :
    MetFree l (⟨"java/lang/StringUTF16", "getChar", "([BI)C"⟩ : MethodName) (head1 (Jvm.Cond.code (⟨"java/lang/StringUTF16", "getChar", "([BI)C"⟩ : MethodName) jdk_52_method_5_code 2 (some .char) :: ws) ({ frames := 0, cells := 0, slots := 0, locals := 0 } : Room)) (fun a U => a = #[(.ref a1), (.int (Int32.ofNat i))] ∧ Z.Warmed39 U.vm ∧ U.heap = h0) (fun _ _ _ _ _ => True) (fun _ U o U' => ∃ v L, o = .returned v ∧ QgetChar Z a1 k1 cs i h0 n0 v U'.heap L ∧ FrameEnd U o U' L ({ frames := 0, cells := 0, slots := 0, locals := 0 } : Room).cells ({ frames := 0, cells := 0, slots := 0, locals := 0 } : Room).slots) := by
  refine MetFree.of_bodySF (plainFor_of_name pn_java_lang_StringUTF16) hisR ?_
  intro p e s m args below meth c s₁ Bd hml0 hP hK
  obtain ⟨rfl, hZ, hH0⟩ := hP
  have hx := Bd.exec
  have hby := Bd.bytes
  have hml : c.maxLocals = 2 := hml0
  have hown : s.vm.findClass "java/lang/StringUTF16" = some m.cls := findClass_of_methodNamed Bd.named
  have hnm := (name_of_methodNamed Bd.named Bd.method).1
  have X0 : Stand p l e ({ frames := 0, cells := 0, slots := 0, locals := 0 } : Room) s m #[(.ref a1), (.int (Int32.ofNat i))] below meth c s₁ [] 0 0 := Stand.of_body Bd
  have e0 : s₁.heap = h0 := by rw [← hH0, Bd.state]; rfl
  have N0 := Fr.nil n0
  refine own_cast (ef_getChar m a1 i) ?_
  show own_Go p e below (fun o U' => ∃ v L, o = .returned v ∧ QgetChar Z a1 k1 cs i h0 n0 v U'.heap L ∧ FrameEnd s o U' L ({ frames := 0, cells := 0, slots := 0, locals := 0 } : Room).cells ({ frames := 0, cells := 0, slots := 0, locals := 0 } : Room).slots) (s₁.setTop (mkF m 0 #[.val (.ref a1), .val (.int (Int32.ofNat i))] []))
  obtain ⟨T_1, X_1, e_1, st_1⟩ := getS2 X0 hx hZ hown (host := "") (Or.inl (own_w hw 57 rfl)) Via.refl e0 (Sad.ext O0.2) (g := (mkF m 0 #[.val (.ref a1), .val (.int (Int32.ofNat i))] [])) rfl (hb hby d15_0)
  refine own_via st_1 ?_
  show own_Go p e below _ (T_1.setTop (mkF m 3 #[.val (.ref a1), .val (.int (Int32.ofNat i))] [(.int (1 : Int32))]))
  refine own_via (fun _ => XS.ifYes X_1.here hx rfl (pc0 := 3) (pc' := 28) rfl (hb hby d15_3) rfl ((if0 _ _).trans (feq ((by decide) : ¬ ((1 : Int32) = (0 : Int32)))).2) (by decide) (by decide)) ?_
  show own_Go p e below _ (T_1.setTop (mkF m 28 #[.val (.ref a1), .val (.int (Int32.ofNat i))] []))
  refine own_iloadN X_1 hx (hb hby d15_28) (q := 29) rfl rfl ?_
  refine own_iconst X_1 hx (hb hby d15_29) (q := 30) (z := (1 : Int32)) rfl rfl ?_
  refine own_via (fun _ => XS.ishl X_1.here hx rfl (hb hby d15_30) rfl) ?_
  show own_Go p e below _ (T_1.setTop (mkF m 31 #[.val (.ref a1), .val (.int (Int32.ofNat i))] [(.int ((Int32.ofNat i) <<< ((1 : Int32) &&& 31)))]))
  rw [own_shl1 i (by omega)]
  show own_Go p e below _ (T_1.setTop (mkF m 31 #[.val (.ref a1), .val (.int (Int32.ofNat i))] [(.int (Int32.ofNat (2 * i)))]))
  refine own_via (fun _ => XS.istoreN X_1.here hx rfl (hb hby d15_31) rfl (l' := #[.val (.ref a1), .val (.int (Int32.ofNat (2 * i)))]) rfl) ?_
  show own_Go p e below _ (T_1.setTop (mkF m 32 #[.val (.ref a1), .val (.int (Int32.ofNat (2 * i)))] []))
  refine own_aloadN X_1 hx (hb hby d15_32) (q := 33) rfl rfl rfl ?_
  refine own_iloadN X_1 hx (hb hby d15_33) (q := 34) rfl rfl ?_
  refine own_via (fun _ => XS.iinc X_1.here hx rfl (hb hby d15_34) rfl (l' := #[.val (.ref a1), .val (.int ((Int32.ofNat (2 * i)) + (1 : Int32)))]) rfl) ?_
  show own_Go p e below _ (T_1.setTop (mkF m 37 #[.val (.ref a1), .val (.int ((Int32.ofNat (2 * i)) + (1 : Int32)))] [(.int (Int32.ofNat (2 * i))), (.ref a1)]))
  rw [own_succ]
  show own_Go p e below _ (T_1.setTop (mkF m 37 #[.val (.ref a1), .val (.int (Int32.ofNat (2 * i + 1)))] [(.int (Int32.ofNat (2 * i))), (.ref a1)]))
  obtain ⟨cl_2, Ar_2, q_2, S_2, M_2, H_2, G_2⟩ := (id A1)
  have ib_2 := own_inbs (n := (2 * cs.length)) (i := (2 * i)) S_2 (by omega) (by omega)
  refine own_via (X_1.baloadBytes hx (j := Int32.ofNat (2 * i)) (v := .int (lo8 (cs.getD i 0))) (by rw [e_1]; exact Ar_2.1) (State.isArrayOf_alike hZ.alike Ar_2.2.1) Ar_2.2.2 ib_2 (Has.at H_2 ib_2 (own_getW0 (by omega) hi)) (g := (mkF m 37 #[.val (.ref a1), .val (.int (Int32.ofNat (2 * i + 1)))] [(.int (Int32.ofNat (2 * i))), (.ref a1)])) rfl rfl (hb hby d15_37)) ?_
  show own_Go p e below _ (T_1.setTop (mkF m 38 #[.val (.ref a1), .val (.int (Int32.ofNat (2 * i + 1)))] [(.int (lo8 (cs.getD i 0)))]))
  refine own_sipush X_1 hx (hb hby d15_38) (q := 41) (z := (255 : Int32)) rfl rfl ?_
  refine own_via (fun _ => XS.iand X_1.here hx rfl (hb hby d15_41) rfl) ?_
  show own_Go p e below _ (T_1.setTop (mkF m 42 #[.val (.ref a1), .val (.int (Int32.ofNat (2 * i + 1)))] [(.int ((lo8 (cs.getD i 0)) &&& (255 : Int32)))]))
  obtain ⟨T_3, X_3, e_3, st_3⟩ := getS2 X_1 hx hZ hown (host := "") (Or.inl (own_w hw 58 rfl)) Via.refl e_1 (Shi.ext O0.2) (g := (mkF m 42 #[.val (.ref a1), .val (.int (Int32.ofNat (2 * i + 1)))] [(.int ((lo8 (cs.getD i 0)) &&& (255 : Int32)))])) rfl (hb hby d15_42)
  refine own_via st_3 ?_
  show own_Go p e below _ (T_3.setTop (mkF m 45 #[.val (.ref a1), .val (.int (Int32.ofNat (2 * i + 1)))] [(.int (0 : Int32)), (.int ((lo8 (cs.getD i 0)) &&& (255 : Int32)))]))
  refine own_via (fun _ => XS.ishl X_3.here hx rfl (hb hby d15_45) rfl) ?_
  show own_Go p e below _ (T_3.setTop (mkF m 46 #[.val (.ref a1), .val (.int (Int32.ofNat (2 * i + 1)))] [(.int (((lo8 (cs.getD i 0)) &&& (255 : Int32)) <<< ((0 : Int32) &&& 31)))]))
  refine own_aloadN X_3 hx (hb hby d15_46) (q := 47) rfl rfl rfl ?_
  refine own_iloadN X_3 hx (hb hby d15_47) (q := 48) rfl rfl ?_
  obtain ⟨cl_4, Ar_4, q_4, S_4, M_4, H_4, G_4⟩ := (id A1)
  have ib_4 := own_inbs (n := (2 * cs.length)) (i := (2 * i + 1)) S_4 (by omega) (by omega)
  refine own_via (X_3.baloadBytes hx (j := Int32.ofNat (2 * i + 1)) (v := .int (hi8 (cs.getD i 0))) (by rw [e_3]; exact Ar_4.1) (State.isArrayOf_alike hZ.alike Ar_4.2.1) Ar_4.2.2 ib_4 (Has.at H_4 ib_4 (own_getW1 (by omega) hi)) (g := (mkF m 48 #[.val (.ref a1), .val (.int (Int32.ofNat (2 * i + 1)))] [(.int (Int32.ofNat (2 * i + 1))), (.ref a1), (.int (((lo8 (cs.getD i 0)) &&& (255 : Int32)) <<< ((0 : Int32) &&& 31)))])) rfl rfl (hb hby d15_48)) ?_
  show own_Go p e below _ (T_3.setTop (mkF m 49 #[.val (.ref a1), .val (.int (Int32.ofNat (2 * i + 1)))] [(.int (hi8 (cs.getD i 0))), (.int (((lo8 (cs.getD i 0)) &&& (255 : Int32)) <<< ((0 : Int32) &&& 31)))]))
  refine own_sipush X_3 hx (hb hby d15_49) (q := 52) (z := (255 : Int32)) rfl rfl ?_
  refine own_via (fun _ => XS.iand X_3.here hx rfl (hb hby d15_52) rfl) ?_
  show own_Go p e below _ (T_3.setTop (mkF m 53 #[.val (.ref a1), .val (.int (Int32.ofNat (2 * i + 1)))] [(.int ((hi8 (cs.getD i 0)) &&& (255 : Int32))), (.int (((lo8 (cs.getD i 0)) &&& (255 : Int32)) <<< ((0 : Int32) &&& 31)))]))
  obtain ⟨T_5, X_5, e_5, st_5⟩ := getS2 X_3 hx hZ hown (host := "") (Or.inl (own_w hw 59 rfl)) Via.refl e_3 (Slo.ext O0.2) (g := (mkF m 53 #[.val (.ref a1), .val (.int (Int32.ofNat (2 * i + 1)))] [(.int ((hi8 (cs.getD i 0)) &&& (255 : Int32))), (.int (((lo8 (cs.getD i 0)) &&& (255 : Int32)) <<< ((0 : Int32) &&& 31)))])) rfl (hb hby d15_53)
  refine own_via st_5 ?_
  show own_Go p e below _ (T_5.setTop (mkF m 56 #[.val (.ref a1), .val (.int (Int32.ofNat (2 * i + 1)))] [(.int (8 : Int32)), (.int ((hi8 (cs.getD i 0)) &&& (255 : Int32))), (.int (((lo8 (cs.getD i 0)) &&& (255 : Int32)) <<< ((0 : Int32) &&& 31)))]))
  refine own_via (fun _ => XS.ishl X_5.here hx rfl (hb hby d15_56) rfl) ?_
  show own_Go p e below _ (T_5.setTop (mkF m 57 #[.val (.ref a1), .val (.int (Int32.ofNat (2 * i + 1)))] [(.int (((hi8 (cs.getD i 0)) &&& (255 : Int32)) <<< ((8 : Int32) &&& 31))), (.int (((lo8 (cs.getD i 0)) &&& (255 : Int32)) <<< ((0 : Int32) &&& 31)))]))
  refine own_via (fun _ => XS.ior X_5.here hx rfl (hb hby d15_57) rfl) ?_
  show own_Go p e below _ (T_5.setTop (mkF m 58 #[.val (.ref a1), .val (.int (Int32.ofNat (2 * i + 1)))] [(.int ((((lo8 (cs.getD i 0)) &&& (255 : Int32)) <<< ((0 : Int32) &&& 31)) ||| (((hi8 (cs.getD i 0)) &&& (255 : Int32)) <<< ((8 : Int32) &&& 31))))]))
  refine own_via (fun _ => XS.i2c X_5.here hx rfl (hb hby d15_58) rfl) ?_
  show own_Go p e below _ (T_5.setTop (mkF m 59 #[.val (.ref a1), .val (.int (Int32.ofNat (2 * i + 1)))] [(.int (((((lo8 (cs.getD i 0)) &&& (255 : Int32)) <<< ((0 : Int32) &&& 31)) ||| (((hi8 (cs.getD i 0)) &&& (255 : Int32)) <<< ((8 : Int32) &&& 31))).toUInt32.toUInt16.toUInt32.toInt32))]))
  have hbi := own_mb hbd hi
  have hpc : (((((lo8 (cs.getD i 0)) &&& (255 : Int32)) <<< ((0 : Int32) &&& 31)) ||| (((hi8 (cs.getD i 0)) &&& (255 : Int32)) <<< ((8 : Int32) &&& 31))).toUInt32.toUInt16.toUInt32.toInt32) = (cs.getD i 0) := pair_says hbi.1 hbi.2
  rw [hpc]
  show own_Go p e below _ (T_5.setTop (mkF m 59 #[.val (.ref a1), .val (.int (Int32.ofNat (2 * i + 1)))] [(.int (cs.getD i 0))]))
  exact own_retv X_5 Bd.notSynchronized hx Bd.returns (own_narV hbi) (Or.inl ⟨rfl, (by simp), _, rfl⟩) (hb hby d15_59) (by decide) (by decide) (by rw [e_5]; exact ⟨rfl, N0, rfl⟩)
theorem d14_0 : decode jdk_52_method_4_code 0 = .ok (.getstatic 44, 3) := by decide +kernel
theorem d14_3 : decode jdk_52_method_4_code 3 = .ok (.ifCond .ne 25, 3) := by decide +kernel
theorem d14_28 : decode jdk_52_method_4_code 28 = .ok (.iload_n 1, 1) := by decide +kernel
theorem d14_29 : decode jdk_52_method_4_code 29 = .ok (.iconst 1, 1) := by decide +kernel
theorem d14_30 : decode jdk_52_method_4_code 30 = .ok (.ishl, 1) := by decide +kernel
theorem d14_31 : decode jdk_52_method_4_code 31 = .ok (.istore_n 1, 1) := by decide +kernel
theorem d14_32 : decode jdk_52_method_4_code 32 = .ok (.aload_n 0, 1) := by decide +kernel
theorem d14_33 : decode jdk_52_method_4_code 33 = .ok (.iload_n 1, 1) := by decide +kernel
theorem d14_34 : decode jdk_52_method_4_code 34 = .ok (.iinc 1 1, 3) := by decide +kernel
theorem d14_37 : decode jdk_52_method_4_code 37 = .ok (.iload_n 2, 1) := by decide +kernel
theorem d14_38 : decode jdk_52_method_4_code 38 = .ok (.getstatic 59, 3) := by decide +kernel
theorem d14_41 : decode jdk_52_method_4_code 41 = .ok (.ishr, 1) := by decide +kernel
theorem d14_42 : decode jdk_52_method_4_code 42 = .ok (.i2b, 1) := by decide +kernel
theorem d14_43 : decode jdk_52_method_4_code 43 = .ok (.bastore, 1) := by decide +kernel
theorem d14_44 : decode jdk_52_method_4_code 44 = .ok (.aload_n 0, 1) := by decide +kernel
theorem d14_45 : decode jdk_52_method_4_code 45 = .ok (.iload_n 1, 1) := by decide +kernel
theorem d14_46 : decode jdk_52_method_4_code 46 = .ok (.iload_n 2, 1) := by decide +kernel
theorem d14_47 : decode jdk_52_method_4_code 47 = .ok (.getstatic 63, 3) := by decide +kernel
theorem d14_50 : decode jdk_52_method_4_code 50 = .ok (.ishr, 1) := by decide +kernel
theorem d14_51 : decode jdk_52_method_4_code 51 = .ok (.i2b, 1) := by decide +kernel
theorem d14_52 : decode jdk_52_method_4_code 52 = .ok (.bastore, 1) := by decide +kernel
theorem d14_53 : decode jdk_52_method_4_code 53 = .ok (.return_, 1) := by decide +kernel
theorem ef_putChar (m : MethodId) (a1 : Addr) (cs : List Int32) (i : Nat) : entryFrame m #[(.ref a1), (.int (Int32.ofNat i)), (.int (cs.getD i 0))] 3 = mkF m 0 #[.val (.ref a1), .val (.int (Int32.ofNat i)), .val (.int (cs.getD i 0))] [] := by first | (simp [entryFrame, mkF, argsToLocals, Value.category]; done) | rfl
def QputChar (Z : State) (a1 : Addr) (k1 : ClassId) (cs : List Int32) (i : Nat) (h0 : Heap) (n0 : Nat) (v : Option Value) (h : Heap) (L : List Loc) : Prop := v = none ∧ Fr n0 L ∧ Keep h0 h [a1] ∧ (Arv Z h a1 k1 .byte (Int32.ofNat (2 * cs.length)) (own_wd cs (i + 1)) (.int (0 : Int32)))
theorem rmputChar (l : Launch) (Z : State) (a0 : Array Value) (hw : ∀ d ∈ tables_1, d.before a0 Z = true) (ws : List Jvm.Cond) (a1 : Addr) (k1 : ClassId) (cs : List Int32) (i : Nat) (h0 : Heap) (n0 : Nat) (Z0 : n0 ≤ h0.size) (O0 : Old Z n0 h0) (Sad : Sta Z Z.heap "java/lang/StringUTF16" "$assertionsDisabled" "Z" (.int (1 : Int32))) (Shi : Sta Z Z.heap "java/lang/StringUTF16" "HI_BYTE_SHIFT" "I" (.int (0 : Int32))) (Slo : Sta Z Z.heap "java/lang/StringUTF16" "LO_BYTE_SHIFT" "I" (.int (8 : Int32))) (A1 : Arv Z h0 a1 k1 .byte (Int32.ofNat (2 * cs.length)) (own_wd cs i) (.int (0 : Int32))) (hl : cs.length ≤ 103) (hi : i < cs.length) (ga : n0 ≤ a1) :
    MetFree l (⟨"java/lang/StringUTF16", "putChar", "([BII)V"⟩ : MethodName) (head1 (Jvm.Cond.code (⟨"java/lang/StringUTF16", "putChar", "([BII)V"⟩ : MethodName) jdk_52_method_4_code 3 none :: ws) ({ frames := 0, cells := 0, slots := 0, locals := 0 } : Room)) (fun a U => a = #[(.ref a1), (.int (Int32.ofNat i)), (.int (cs.getD i 0))] ∧ Z.Warmed39 U.vm ∧ U.heap = h0) (fun _ _ _ _ _ => True) (fun _ U o U' => ∃ v L, o = .returned v ∧ QputChar Z a1 k1 cs i h0 n0 v U'.heap L ∧ FrameEnd U o U' L ({ frames := 0, cells := 0, slots := 0, locals := 0 } : Room).cells ({ frames := 0, cells := 0, slots := 0, locals := 0 } : Room).slots) := by
  refine MetFree.of_bodySF (plainFor_of_name pn_java_lang_StringUTF16) hisR ?_
  intro p e s m args below meth c s₁ Bd hml0 hP hK
  obtain ⟨rfl, hZ, hH0⟩ := hP
  have hx := Bd.exec
  have hby := Bd.bytes
  have hml : c.maxLocals = 3 := hml0
  have hown : s.vm.findClass "java/lang/StringUTF16" = some m.cls := findClass_of_methodNamed Bd.named
  have hnm := (name_of_methodNamed Bd.named Bd.method).1
  have X0 : Stand p l e ({ frames := 0, cells := 0, slots := 0, locals := 0 } : Room) s m #[(.ref a1), (.int (Int32.ofNat i)), (.int (cs.getD i 0))] below meth c s₁ [] 0 0 := Stand.of_body Bd
  have e0 : s₁.heap = h0 := by rw [← hH0, Bd.state]; rfl
  have N0 := Fr.nil n0
  refine own_cast (ef_putChar m a1 cs i) ?_
  show own_Go p e below (fun o U' => ∃ v L, o = .returned v ∧ QputChar Z a1 k1 cs i h0 n0 v U'.heap L ∧ FrameEnd s o U' L ({ frames := 0, cells := 0, slots := 0, locals := 0 } : Room).cells ({ frames := 0, cells := 0, slots := 0, locals := 0 } : Room).slots) (s₁.setTop (mkF m 0 #[.val (.ref a1), .val (.int (Int32.ofNat i)), .val (.int (cs.getD i 0))] []))
  obtain ⟨T_1, X_1, e_1, st_1⟩ := getS2 X0 hx hZ hown (host := "") (Or.inl (own_w hw 57 rfl)) Via.refl e0 (Sad.ext O0.2) (g := (mkF m 0 #[.val (.ref a1), .val (.int (Int32.ofNat i)), .val (.int (cs.getD i 0))] [])) rfl (hb hby d14_0)
  refine own_via st_1 ?_
  show own_Go p e below _ (T_1.setTop (mkF m 3 #[.val (.ref a1), .val (.int (Int32.ofNat i)), .val (.int (cs.getD i 0))] [(.int (1 : Int32))]))
  refine own_via (fun _ => XS.ifYes X_1.here hx rfl (pc0 := 3) (pc' := 28) rfl (hb hby d14_3) rfl ((if0 _ _).trans (feq ((by decide) : ¬ ((1 : Int32) = (0 : Int32)))).2) (by decide) (by decide)) ?_
  show own_Go p e below _ (T_1.setTop (mkF m 28 #[.val (.ref a1), .val (.int (Int32.ofNat i)), .val (.int (cs.getD i 0))] []))
  refine own_iloadN X_1 hx (hb hby d14_28) (q := 29) rfl rfl ?_
  refine own_iconst X_1 hx (hb hby d14_29) (q := 30) (z := (1 : Int32)) rfl rfl ?_
  refine own_via (fun _ => XS.ishl X_1.here hx rfl (hb hby d14_30) rfl) ?_
  show own_Go p e below _ (T_1.setTop (mkF m 31 #[.val (.ref a1), .val (.int (Int32.ofNat i)), .val (.int (cs.getD i 0))] [(.int ((Int32.ofNat i) <<< ((1 : Int32) &&& 31)))]))
  rw [own_shl1 i (by omega)]
  show own_Go p e below _ (T_1.setTop (mkF m 31 #[.val (.ref a1), .val (.int (Int32.ofNat i)), .val (.int (cs.getD i 0))] [(.int (Int32.ofNat (2 * i)))]))
  refine own_via (fun _ => XS.istoreN X_1.here hx rfl (hb hby d14_31) rfl (l' := #[.val (.ref a1), .val (.int (Int32.ofNat (2 * i))), .val (.int (cs.getD i 0))]) rfl) ?_
  show own_Go p e below _ (T_1.setTop (mkF m 32 #[.val (.ref a1), .val (.int (Int32.ofNat (2 * i))), .val (.int (cs.getD i 0))] []))
  refine own_aloadN X_1 hx (hb hby d14_32) (q := 33) rfl rfl rfl ?_
  refine own_iloadN X_1 hx (hb hby d14_33) (q := 34) rfl rfl ?_
  refine own_via (fun _ => XS.iinc X_1.here hx rfl (hb hby d14_34) rfl (l' := #[.val (.ref a1), .val (.int ((Int32.ofNat (2 * i)) + (1 : Int32))), .val (.int (cs.getD i 0))]) rfl) ?_
  show own_Go p e below _ (T_1.setTop (mkF m 37 #[.val (.ref a1), .val (.int ((Int32.ofNat (2 * i)) + (1 : Int32))), .val (.int (cs.getD i 0))] [(.int (Int32.ofNat (2 * i))), (.ref a1)]))
  rw [own_succ]
  show own_Go p e below _ (T_1.setTop (mkF m 37 #[.val (.ref a1), .val (.int (Int32.ofNat (2 * i + 1))), .val (.int (cs.getD i 0))] [(.int (Int32.ofNat (2 * i))), (.ref a1)]))
  refine own_iloadN X_1 hx (hb hby d14_37) (q := 38) rfl rfl ?_
  obtain ⟨T_2, X_2, e_2, st_2⟩ := getS2 X_1 hx hZ hown (host := "") (Or.inl (own_w hw 58 rfl)) Via.refl e_1 (Shi.ext O0.2) (g := (mkF m 38 #[.val (.ref a1), .val (.int (Int32.ofNat (2 * i + 1))), .val (.int (cs.getD i 0))] [(.int (cs.getD i 0)), (.int (Int32.ofNat (2 * i))), (.ref a1)])) rfl (hb hby d14_38)
  refine own_via st_2 ?_
  show own_Go p e below _ (T_2.setTop (mkF m 41 #[.val (.ref a1), .val (.int (Int32.ofNat (2 * i + 1))), .val (.int (cs.getD i 0))] [(.int (0 : Int32)), (.int (cs.getD i 0)), (.int (Int32.ofNat (2 * i))), (.ref a1)]))
  refine own_via (fun _ => XS.ishr X_2.here hx rfl (hb hby d14_41) rfl) ?_
  show own_Go p e below _ (T_2.setTop (mkF m 42 #[.val (.ref a1), .val (.int (Int32.ofNat (2 * i + 1))), .val (.int (cs.getD i 0))] [(.int ((cs.getD i 0) >>> ((0 : Int32) &&& 31))), (.int (Int32.ofNat (2 * i))), (.ref a1)]))
  rw [own_shr0]
  show own_Go p e below _ (T_2.setTop (mkF m 42 #[.val (.ref a1), .val (.int (Int32.ofNat (2 * i + 1))), .val (.int (cs.getD i 0))] [(.int (cs.getD i 0)), (.int (Int32.ofNat (2 * i))), (.ref a1)]))
  refine own_via (fun _ => XS.i2b X_2.here hx rfl (hb hby d14_42) rfl) ?_
  show own_Go p e below _ (T_2.setTop (mkF m 43 #[.val (.ref a1), .val (.int (Int32.ofNat (2 * i + 1))), .val (.int (cs.getD i 0))] [(.int ((cs.getD i 0).toInt8.toInt32)), (.int (Int32.ofNat (2 * i))), (.ref a1)]))
  obtain ⟨cl_3, Ar_3, q_3, S_3, M_3, H_3, G_3⟩ := (id A1)
  have ib_3 := own_inbs (n := (2 * cs.length)) (i := (2 * i)) S_3 (by omega) (by omega)
  obtain ⟨T_3, h_3, X_3, e_3, W_3, st_3⟩ := stB X_2 hx hZ e_2 Ar_3 (j := Int32.ofNat (2 * i)) ib_3 (g := (mkF m 43 #[.val (.ref a1), .val (.int (Int32.ofNat (2 * i + 1))), .val (.int (cs.getD i 0))] [(.int ((cs.getD i 0).toInt8.toInt32)), (.int (Int32.ofNat (2 * i))), (.ref a1)])) rfl rfl (hb hby d14_43)
  have V_3 : Arv Z h_3 a1 k1 .byte (Int32.ofNat (2 * cs.length)) ((own_wd cs i).set (2 * i) (.int (nar .byte ((cs.getD i 0).toInt8.toInt32)))) (.int (0 : Int32)) := Arv.set Ar_3 q_3 S_3 M_3 H_3 G_3 (fits_nar_byte _) W_3 (2 * i) (own_clamp (by omega)) (by rw [own_wdlen]; omega)
  have V_3' : Arv Z h_3 a1 k1 .byte (Int32.ofNat (2 * cs.length)) ((own_wd cs i).set (2 * i) (.int (lo8 (cs.getD i 0)))) (.int (0 : Int32)) := by have q := V_3; rwa [own_nb] at q
  have N_3 := Fr.snoc X_3 N0 ga
  refine own_via st_3 ?_
  show own_Go p e below _ (T_3.setTop (mkF m 44 #[.val (.ref a1), .val (.int (Int32.ofNat (2 * i + 1))), .val (.int (cs.getD i 0))] []))
  refine own_aloadN X_3 hx (hb hby d14_44) (q := 45) rfl rfl rfl ?_
  refine own_iloadN X_3 hx (hb hby d14_45) (q := 46) rfl rfl ?_
  refine own_iloadN X_3 hx (hb hby d14_46) (q := 47) rfl rfl ?_
  have K_4 : Keep h0 h_3 [a1] := Keep.wr (ws := [a1]) (own_keep_mono (Keep.refl h0 []) (by simp)) W_3 (Or.inl (List.mem_of_getElem? (i := 0) rfl))
  obtain ⟨T_5, X_5, e_5, st_5⟩ := getS2 X_3 hx hZ hown (host := "") (Or.inl (own_w hw 59 rfl)) Via.refl e_3 (Slo.ext (O0.keep K_4 (allS ga all0)).2) (g := (mkF m 47 #[.val (.ref a1), .val (.int (Int32.ofNat (2 * i + 1))), .val (.int (cs.getD i 0))] [(.int (cs.getD i 0)), (.int (Int32.ofNat (2 * i + 1))), (.ref a1)])) rfl (hb hby d14_47)
  refine own_via st_5 ?_
  show own_Go p e below _ (T_5.setTop (mkF m 50 #[.val (.ref a1), .val (.int (Int32.ofNat (2 * i + 1))), .val (.int (cs.getD i 0))] [(.int (8 : Int32)), (.int (cs.getD i 0)), (.int (Int32.ofNat (2 * i + 1))), (.ref a1)]))
  refine own_via (fun _ => XS.ishr X_5.here hx rfl (hb hby d14_50) rfl) ?_
  show own_Go p e below _ (T_5.setTop (mkF m 51 #[.val (.ref a1), .val (.int (Int32.ofNat (2 * i + 1))), .val (.int (cs.getD i 0))] [(.int ((cs.getD i 0) >>> ((8 : Int32) &&& 31))), (.int (Int32.ofNat (2 * i + 1))), (.ref a1)]))
  refine own_via (fun _ => XS.i2b X_5.here hx rfl (hb hby d14_51) rfl) ?_
  show own_Go p e below _ (T_5.setTop (mkF m 52 #[.val (.ref a1), .val (.int (Int32.ofNat (2 * i + 1))), .val (.int (cs.getD i 0))] [(.int (((cs.getD i 0) >>> ((8 : Int32) &&& 31)).toInt8.toInt32)), (.int (Int32.ofNat (2 * i + 1))), (.ref a1)]))
  obtain ⟨cl_6, Ar_6, q_6, S_6, M_6, H_6, G_6⟩ := (id V_3')
  have ib_6 := own_inbs (n := (2 * cs.length)) (i := (2 * i + 1)) S_6 (by omega) (by omega)
  obtain ⟨T_6, h_6, X_6, e_6, W_6, st_6⟩ := stB X_5 hx hZ e_5 Ar_6 (j := Int32.ofNat (2 * i + 1)) ib_6 (g := (mkF m 52 #[.val (.ref a1), .val (.int (Int32.ofNat (2 * i + 1))), .val (.int (cs.getD i 0))] [(.int (((cs.getD i 0) >>> ((8 : Int32) &&& 31)).toInt8.toInt32)), (.int (Int32.ofNat (2 * i + 1))), (.ref a1)])) rfl rfl (hb hby d14_52)
  have V_6 : Arv Z h_6 a1 k1 .byte (Int32.ofNat (2 * cs.length)) (((own_wd cs i).set (2 * i) (.int (lo8 (cs.getD i 0)))).set (2 * i + 1) (.int (nar .byte (((cs.getD i 0) >>> ((8 : Int32) &&& 31)).toInt8.toInt32)))) (.int (0 : Int32)) := Arv.set Ar_6 q_6 S_6 M_6 H_6 G_6 (fits_nar_byte _) W_6 (2 * i + 1) (own_clamp (by omega)) (by rw [List.length_set, own_wdlen]; omega)
  have V_6' : Arv Z h_6 a1 k1 .byte (Int32.ofNat (2 * cs.length)) (own_wd cs (i + 1)) (.int (0 : Int32)) := by have q := V_6; rw [own_nb] at q; exact own_wdset hi ▸ q
  have N_6 := Fr.snoc X_6 N_3 ga
  refine own_via st_6 ?_
  show own_Go p e below _ (T_6.setTop (mkF m 53 #[.val (.ref a1), .val (.int (Int32.ofNat (2 * i + 1))), .val (.int (cs.getD i 0))] []))
  have K_7 : Keep h0 h_6 [a1] := Keep.wr (ws := [a1]) K_4 W_6 (Or.inl (List.mem_of_getElem? (i := 0) rfl))
  exact own_ret0 X_6 Bd.notSynchronized hx Bd.returns (hb hby d14_53) (by decide) (by decide) (by rw [e_6]; exact ⟨rfl, N_6, K_7, V_6'⟩)
theorem d11_0 : decode jdk_52_method_14_code 0 = .ok (.iload_n 2, 1) := by decide +kernel
theorem d11_1 : decode jdk_52_method_14_code 1 = .ok (.invokestatic 107, 3) := by decide +kernel
theorem d11_4 : decode jdk_52_method_14_code 4 = .ok (.astore_n 3, 1) := by decide +kernel
theorem d11_5 : decode jdk_52_method_14_code 5 = .ok (.iconst 0, 1) := by decide +kernel
theorem d11_6 : decode jdk_52_method_14_code 6 = .ok (.istore 4, 2) := by decide +kernel
theorem d11_8 : decode jdk_52_method_14_code 8 = .ok (.iload 4, 2) := by decide +kernel
theorem d11_10 : decode jdk_52_method_14_code 10 = .ok (.iload_n 2, 1) := by decide +kernel
theorem d11_11 : decode jdk_52_method_14_code 11 = .ok (.if_icmp .ge 21, 3) := by decide +kernel
theorem d11_14 : decode jdk_52_method_14_code 14 = .ok (.aload_n 3, 1) := by decide +kernel
theorem d11_15 : decode jdk_52_method_14_code 15 = .ok (.iload 4, 2) := by decide +kernel
theorem d11_17 : decode jdk_52_method_14_code 17 = .ok (.aload_n 0, 1) := by decide +kernel
theorem d11_18 : decode jdk_52_method_14_code 18 = .ok (.iload_n 1, 1) := by decide +kernel
theorem d11_19 : decode jdk_52_method_14_code 19 = .ok (.caload, 1) := by decide +kernel
theorem d11_20 : decode jdk_52_method_14_code 20 = .ok (.invokestatic 111, 3) := by decide +kernel
theorem d11_23 : decode jdk_52_method_14_code 23 = .ok (.iinc 1 1, 3) := by decide +kernel
theorem d11_26 : decode jdk_52_method_14_code 26 = .ok (.iinc 4 1, 3) := by decide +kernel
theorem d11_29 : decode jdk_52_method_14_code 29 = .ok (.goto (-21), 3) := by decide +kernel
theorem d11_32 : decode jdk_52_method_14_code 32 = .ok (.aload_n 3, 1) := by decide +kernel
theorem d11_33 : decode jdk_52_method_14_code 33 = .ok (.areturn, 1) := by decide +kernel
theorem pd_3 : parseMethodDescriptor "(I)[B" = some ⟨[.int], some (.array .byte)⟩ := by decide +kernel
theorem pd_4 : parseMethodDescriptor "([BII)V" = some ⟨[(.array .byte), .int, .int], none⟩ := by decide +kernel
theorem ef_toBytes (m : MethodId) (a1 : Addr) (cs : List Int32) : entryFrame m #[(.ref a1), (.int (0 : Int32)), (.int (Int32.ofNat cs.length))] 5 = mkF m 0 #[.val (.ref a1), .val (.int (0 : Int32)), .val (.int (Int32.ofNat cs.length)), .unset, .unset] [] := by first | (simp [entryFrame, mkF, argsToLocals, Value.category]; done) | rfl
def QtoBytes (Z : State) (a1 : Addr) (k1 : ClassId) (cs : List Int32) (h0 : Heap) (n0 : Nat) (v : Option Value) (h : Heap) (L : List Loc) : Prop := ∃ r : Addr, ∃ k : ClassId, v = some (.ref r) ∧ Fr n0 L ∧ Keep h0 h [] ∧ (h0.size ≤ r) ∧ (Arv Z h r k .byte (Int32.ofNat (2 * cs.length)) (wideBytes cs) (.int (0 : Int32)))
theorem rmtoBytes (l : Launch) (Z : State) (a0 : Array Value) (hw : ∀ d ∈ tables_1, d.before a0 Z = true) (ws : List Jvm.Cond) (a1 : Addr) (k1 : ClassId) (cs : List Int32) (h0 : Heap) (n0 : Nat) (Z0 : n0 ≤ h0.size) (O0 : Old Z n0 h0) (Sad : Sta Z Z.heap "java/lang/StringUTF16" "$assertionsDisabled" "Z" (.int (1 : Int32))) (Shi : Sta Z Z.heap "java/lang/StringUTF16" "HI_BYTE_SHIFT" "I" (.int (0 : Int32))) (Slo : Sta Z Z.heap "java/lang/StringUTF16" "LO_BYTE_SHIFT" "I" (.int (8 : Int32))) (A1 : Arv Z h0 a1 k1 .char (Int32.ofNat cs.length) (cs.map Value.int) (.int (0 : Int32))) (hl : cs.length ≤ 103) :
    MetFree l (⟨"java/lang/StringUTF16", "toBytes", "([CII)[B"⟩ : MethodName) (head1 (Jvm.Cond.code (⟨"java/lang/StringUTF16", "toBytes", "([CII)[B"⟩ : MethodName) jdk_52_method_14_code 5 (some (.array .byte)) :: ws) ({ frames := 2, cells := 1, slots := 206, locals := 30 } : Room)) (fun a U => a = #[(.ref a1), (.int (0 : Int32)), (.int (Int32.ofNat cs.length))] ∧ Z.Warmed39 U.vm ∧ U.heap = h0) (fun _ _ _ _ _ => True) (fun _ U o U' => ∃ v L, o = .returned v ∧ QtoBytes Z a1 k1 cs h0 n0 v U'.heap L ∧ FrameEnd U o U' L ({ frames := 2, cells := 1, slots := 206, locals := 30 } : Room).cells ({ frames := 2, cells := 1, slots := 206, locals := 30 } : Room).slots) := by
  refine MetFree.of_bodySF (plainFor_of_name pn_java_lang_StringUTF16) hisR ?_
  intro p e s m args below meth c s₁ Bd hml0 hP hK
  obtain ⟨rfl, hZ, hH0⟩ := hP
  have hx := Bd.exec
  have hby := Bd.bytes
  have hml : c.maxLocals = 5 := hml0
  have hown : s.vm.findClass "java/lang/StringUTF16" = some m.cls := findClass_of_methodNamed Bd.named
  have hnm := (name_of_methodNamed Bd.named Bd.method).1
  have X0 : Stand p l e ({ frames := 2, cells := 1, slots := 206, locals := 30 } : Room) s m #[(.ref a1), (.int (0 : Int32)), (.int (Int32.ofNat cs.length))] below meth c s₁ [] 0 0 := Stand.of_body Bd
  have e0 : s₁.heap = h0 := by rw [← hH0, Bd.state]; rfl
  have N0 := Fr.nil n0
  refine own_cast (ef_toBytes m a1 cs) ?_
  show own_Go p e below (fun o U' => ∃ v L, o = .returned v ∧ QtoBytes Z a1 k1 cs h0 n0 v U'.heap L ∧ FrameEnd s o U' L ({ frames := 2, cells := 1, slots := 206, locals := 30 } : Room).cells ({ frames := 2, cells := 1, slots := 206, locals := 30 } : Room).slots) (s₁.setTop (mkF m 0 #[.val (.ref a1), .val (.int (0 : Int32)), .val (.int (Int32.ofNat cs.length)), .unset, .unset] []))
  refine own_iloadN X0 hx (hb hby d11_0) (q := 1) rfl rfl ?_
  obtain ⟨_, _, ⟨T_1, L_1, k_1, n_1⟩, -, X_1, ⟨Lc_1, hQ_1, l_1, y_1, z_1⟩, st_1⟩ := Jvm.LawKit.callS X0 hx (y := (⟨"java/lang/StringUTF16", "newBytesFor", "(I)[B"⟩ : MethodName)) hown (mvT hZ (own_w hw 47 rfl)) (mvT hZ (own_w hw 48 rfl)) (mvT hZ (own_w hw 38 rfl)) (mvT hZ (own_w hw 49 rfl)) (by decide) (backOf (W := 0) (rmnbf l Z a0 hw [] cs.length h0 n0 Z0 hl) hZ (own_w hw 49 rfl) (own_w hw 38 rfl) (by decide) (by decide)) (g := (mkF m 1 #[.val (.ref a1), .val (.int (0 : Int32)), .val (.int (Int32.ofNat cs.length)), .unset, .unset] [(.int (Int32.ofNat cs.length))])) rfl (by rw [hml]; rfl) (argsL := [(.int (Int32.ofNat cs.length))]) (rest := []) (lenOf pd_3 rfl) rfl (by show 2 * 0 + _ ≤ _; exact Nat.le_of_eq rfl) (hb hby d11_1) (fun _ _ => ⟨rfl, e0, (by decide : 0 + 1 ≤ _), (by decide : 0 + 206 ≤ _)⟩)
  dsimp only [Pt.U, Pt.locs, Pt.cells, Pt.slots] at X_1 l_1 y_1 z_1 st_1 hQ_1
  subst l_1 y_1 z_1
  obtain ⟨r_2, u_3, rfl, Nq_1, K_1q, q_1_0, q_1_1⟩ := hQ_1
  have N_1 := Fr.app N0 Nq_1
  refine own_via st_1 ?_
  show own_Go p e below _ (T_1.setTop (mkF m 4 #[.val (.ref a1), .val (.int (0 : Int32)), .val (.int (Int32.ofNat cs.length)), .unset, .unset] [(.ref r_2)]))
  have V_4 : Arv Z T_1.heap r_2 u_3 .byte (Int32.ofNat (2 * cs.length)) (own_wd cs 0) (.int (0 : Int32)) := own_wd0 cs ▸ q_1_1
  refine own_via (fun _ => XS.astoreN X_1.here hx rfl (hb hby d11_4) rfl rfl (l' := #[.val (.ref a1), .val (.int (0 : Int32)), .val (.int (Int32.ofNat cs.length)), .val (.ref r_2), .unset]) rfl) ?_
  show own_Go p e below _ (T_1.setTop (mkF m 5 #[.val (.ref a1), .val (.int (0 : Int32)), .val (.int (Int32.ofNat cs.length)), .val (.ref r_2), .unset] []))
  refine own_iconst X_1 hx (hb hby d11_5) (q := 6) (z := (0 : Int32)) rfl rfl ?_
  refine own_via (fun _ => XS.istore X_1.here hx rfl (hb hby d11_6) rfl (l' := #[.val (.ref a1), .val (.int (0 : Int32)), .val (.int (Int32.ofNat cs.length)), .val (.ref r_2), .val (.int (0 : Int32))]) rfl) ?_
  show own_Go p e below _ (T_1.setTop (mkF m 8 #[.val (.ref a1), .val (.int (0 : Int32)), .val (.int (Int32.ofNat cs.length)), .val (.ref r_2), .val (.int (0 : Int32))] []))
  have loop_5 : ∀ (f_6 : Nat) (T_7 : State) (L_8 : List Loc) (i : Nat) (hi : i ≤ cs.length) (X_6 : Stand p l e ({ frames := 2, cells := 1, slots := 206, locals := 30 } : Room) s m #[(.ref a1), (.int (0 : Int32)), (.int (Int32.ofNat cs.length))] below meth c T_7 L_8 1 206) (h_9 : Heap) (e_6 : T_7.heap = h_9) (K_6 : Keep T_1.heap h_9 [r_2]) (Ai : Arv Z h_9 r_2 u_3 .byte (Int32.ofNat (2 * cs.length)) (own_wd cs i) (.int (0 : Int32))) (N_6 : Fr n0 L_8) (hf_6 : cs.length - i = f_6), own_Go p e below (fun o U' => ∃ v L, o = .returned v ∧ QtoBytes Z a1 k1 cs h0 n0 v U'.heap L ∧ FrameEnd s o U' L ({ frames := 2, cells := 1, slots := 206, locals := 30 } : Room).cells ({ frames := 2, cells := 1, slots := 206, locals := 30 } : Room).slots) (T_7.setTop (mkF m 8 #[.val (.ref a1), .val (.int (Int32.ofNat i)), .val (.int (Int32.ofNat cs.length)), .val (.ref r_2), .val (.int (Int32.ofNat i))] [])) := by
    intro f_6
    induction f_6 using Nat.strongRecOn with
    | _ f_6 ih_6 =>
      intro T_7 L_8 i hi X_6 h_9 e_6 K_6 Ai N_6 hf_6
      show own_Go p e below _ (T_7.setTop (mkF m 8 #[.val (.ref a1), .val (.int (Int32.ofNat i)), .val (.int (Int32.ofNat cs.length)), .val (.ref r_2), .val (.int (Int32.ofNat i))] []))
      refine own_iload X_6 hx (hb hby d11_8) (q := 10) rfl rfl ?_
      refine own_iloadN X_6 hx (hb hby d11_10) (q := 11) rfl rfl ?_
      by_cases hlt : i < cs.length
      · refine own_via (fun _ => XS.icmpNo X_6.here hx rfl (hb hby d11_11) rfl (tlt ((own_lt (i := i) (j := cs.length) (by omega) (by omega)).mpr hlt : (Int32.ofNat i) < (Int32.ofNat cs.length))).2.1) ?_
        show own_Go p e below _ (T_7.setTop (mkF m 14 #[.val (.ref a1), .val (.int (Int32.ofNat i)), .val (.int (Int32.ofNat cs.length)), .val (.ref r_2), .val (.int (Int32.ofNat i))] []))
        refine own_aloadN X_6 hx (hb hby d11_14) (q := 15) rfl rfl rfl ?_
        refine own_iload X_6 hx (hb hby d11_15) (q := 17) rfl rfl ?_
        refine own_aloadN X_6 hx (hb hby d11_17) (q := 18) rfl rfl rfl ?_
        refine own_iloadN X_6 hx (hb hby d11_18) (q := 19) rfl rfl ?_
        have K_11 : Keep h0 T_1.heap [] := Keep.trans (ws := []) (Keep.refl h0 []) K_1q all0
        have K_12 : Keep h0 h_9 [] := Keep.trans (ws := []) K_11 K_6 (allS (Or.inr q_1_0) all0)
        obtain ⟨cl_10, Ar_10, q_10, S_10, M_10, H_10, G_10⟩ := (id (A1.keep K_12 nin0))
        have ib_10 := own_inbs (n := cs.length) (i := i) S_10 (by omega) (by omega)
        refine own_via (X_6.caload hx (j := Int32.ofNat i) (v := .int (cs.getD i 0)) (by rw [e_6]; exact Ar_10.1) (State.isArrayOf_alike hZ.alike Ar_10.2.1) Ar_10.2.2 ib_10 (Has.at H_10 ib_10 (own_getD (by omega))) (g := (mkF m 19 #[.val (.ref a1), .val (.int (Int32.ofNat i)), .val (.int (Int32.ofNat cs.length)), .val (.ref r_2), .val (.int (Int32.ofNat i))] [(.int (Int32.ofNat i)), (.ref a1), (.int (Int32.ofNat i)), (.ref r_2)])) rfl rfl (hb hby d11_19)) ?_
        show own_Go p e below _ (T_7.setTop (mkF m 20 #[.val (.ref a1), .val (.int (Int32.ofNat i)), .val (.int (Int32.ofNat cs.length)), .val (.ref r_2), .val (.int (Int32.ofNat i))] [(.int (cs.getD i 0)), (.int (Int32.ofNat i)), (.ref r_2)]))
        obtain ⟨_, _, ⟨T_13, L_13, k_13, n_13⟩, -, X_13, ⟨Lc_13, hQ_13, l_13, y_13, z_13⟩, st_13⟩ := Jvm.LawKit.callS X_6 hx (y := (⟨"java/lang/StringUTF16", "putChar", "([BII)V"⟩ : MethodName)) hown (mvT hZ (own_w hw 54 rfl)) (mvT hZ (own_w hw 55 rfl)) (mvT hZ (own_w hw 38 rfl)) (mvT hZ (own_w hw 56 rfl)) (by decide) (backOf (W := 0) (rmputChar l Z a0 hw [] r_2 u_3 cs i h_9 n0 (Nat.le_trans Z0 K_12.1) (O0.keep K_12 all0) Sad Shi Slo Ai hl hlt (Nat.le_trans Z0 q_1_0)) hZ (own_w hw 56 rfl) (own_w hw 38 rfl) (by decide) (by decide)) (g := (mkF m 20 #[.val (.ref a1), .val (.int (Int32.ofNat i)), .val (.int (Int32.ofNat cs.length)), .val (.ref r_2), .val (.int (Int32.ofNat i))] [(.int (cs.getD i 0)), (.int (Int32.ofNat i)), (.ref r_2)])) rfl (by rw [hml]; rfl) (argsL := [(.ref r_2), (.int (Int32.ofNat i)), (.int (cs.getD i 0))]) (rest := []) (lenOf pd_4 rfl) rfl (by show 2 * 0 + _ ≤ _; exact Nat.le_of_eq rfl) (hb hby d11_20) (fun _ _ => ⟨rfl, e_6, (by decide : 1 + 0 ≤ _), (by decide : 206 + 0 ≤ _)⟩)
        dsimp only [Pt.U, Pt.locs, Pt.cells, Pt.slots] at X_13 l_13 y_13 z_13 st_13 hQ_13
        subst l_13 y_13 z_13
        obtain ⟨rfl, Nq_13, K_13q, q_13_0⟩ := hQ_13
        have N_13 := Fr.app N_6 Nq_13
        refine own_via st_13 ?_
        show own_Go p e below _ (T_13.setTop (mkF m 23 #[.val (.ref a1), .val (.int (Int32.ofNat i)), .val (.int (Int32.ofNat cs.length)), .val (.ref r_2), .val (.int (Int32.ofNat i))] []))
        refine own_via (fun _ => XS.iinc X_13.here hx rfl (hb hby d11_23) rfl (l' := #[.val (.ref a1), .val (.int ((Int32.ofNat i) + (1 : Int32))), .val (.int (Int32.ofNat cs.length)), .val (.ref r_2), .val (.int (Int32.ofNat i))]) rfl) ?_
        show own_Go p e below _ (T_13.setTop (mkF m 26 #[.val (.ref a1), .val (.int ((Int32.ofNat i) + (1 : Int32))), .val (.int (Int32.ofNat cs.length)), .val (.ref r_2), .val (.int (Int32.ofNat i))] []))
        rw [own_succ]
        show own_Go p e below _ (T_13.setTop (mkF m 26 #[.val (.ref a1), .val (.int (Int32.ofNat (i + 1))), .val (.int (Int32.ofNat cs.length)), .val (.ref r_2), .val (.int (Int32.ofNat i))] []))
        refine own_via (fun _ => XS.iinc X_13.here hx rfl (hb hby d11_26) rfl (l' := #[.val (.ref a1), .val (.int (Int32.ofNat (i + 1))), .val (.int (Int32.ofNat cs.length)), .val (.ref r_2), .val (.int ((Int32.ofNat i) + (1 : Int32)))]) rfl) ?_
        show own_Go p e below _ (T_13.setTop (mkF m 29 #[.val (.ref a1), .val (.int (Int32.ofNat (i + 1))), .val (.int (Int32.ofNat cs.length)), .val (.ref r_2), .val (.int ((Int32.ofNat i) + (1 : Int32)))] []))
        rw [own_succ]
        show own_Go p e below _ (T_13.setTop (mkF m 29 #[.val (.ref a1), .val (.int (Int32.ofNat (i + 1))), .val (.int (Int32.ofNat cs.length)), .val (.ref r_2), .val (.int (Int32.ofNat (i + 1)))] []))
        refine own_via (fun _ => XS.goto X_13.here hx rfl (pc0 := 29) (pc' := 8) rfl (hb hby d11_29) (by decide) (by decide)) ?_
        show own_Go p e below _ (T_13.setTop (mkF m 8 #[.val (.ref a1), .val (.int (Int32.ofNat (i + 1))), .val (.int (Int32.ofNat cs.length)), .val (.ref r_2), .val (.int (Int32.ofNat (i + 1)))] []))
        have K_14 : Keep T_1.heap h_9 [r_2] := Keep.trans (ws := [r_2]) (own_keep_mono (Keep.refl T_1.heap []) (by simp)) K_6 (allS (Or.inl (List.mem_of_getElem? (i := 0) rfl)) all0)
        have K_15 : Keep T_1.heap T_13.heap [r_2] := Keep.trans (ws := [r_2]) K_14 K_13q (allS (Or.inl (List.mem_of_getElem? (i := 0) rfl)) all0)
        exact ih_6 (cs.length - (i + 1)) (by omega) _ _ (i + 1) (by omega) X_13 _ rfl K_15 q_13_0 N_13 rfl
      · refine own_via (fun _ => XS.icmpYes X_6.here hx rfl (pc0 := 11) (pc' := 32) rfl (hb hby d11_11) rfl (flt (fun q => hlt ((own_lt (i := i) (j := cs.length) (by omega) (by omega)).mp q) : ¬ ((Int32.ofNat i) < (Int32.ofNat cs.length)))).2.1 (by decide) (by decide)) ?_
        show own_Go p e below _ (T_7.setTop (mkF m 32 #[.val (.ref a1), .val (.int (Int32.ofNat i)), .val (.int (Int32.ofNat cs.length)), .val (.ref r_2), .val (.int (Int32.ofNat i))] []))
        obtain rfl : i = cs.length := by omega
        refine own_aloadN X_6 hx (hb hby d11_32) (q := 33) rfl rfl rfl ?_
        have K_16 : Keep h0 T_1.heap [] := Keep.trans (ws := []) (Keep.refl h0 []) K_1q all0
        have K_17 : Keep h0 h_9 [] := Keep.trans (ws := []) K_16 K_6 (allS (Or.inr q_1_0) all0)
        exact own_retv X_6 Bd.notSynchronized hx Bd.returns rfl (Or.inr (Or.inr (Or.inr (Or.inr ⟨rfl, rfl, rfl⟩)))) (hb hby d11_33) (by decide) (by decide) (by rw [e_6]; exact ⟨r_2, u_3, rfl, N_6, K_17, q_1_0, (own_wdn cs ▸ Ai)⟩)
  exact loop_5 (cs.length - 0) _ _ 0 (Nat.zero_le _) X_1 _ rfl (own_keep_mono (Keep.refl T_1.heap []) (by simp)) V_4 N_1 rfl
theorem d9_0 : decode jdk_52_method_16_code 0 = .ok (.iload_n 2, 1) := by decide +kernel
theorem d9_1 : decode jdk_52_method_16_code 1 = .ok (.newarray .byte, 2) := by decide +kernel
theorem d9_3 : decode jdk_52_method_16_code 3 = .ok (.astore_n 3, 1) := by decide +kernel
theorem d9_4 : decode jdk_52_method_16_code 4 = .ok (.aload_n 0, 1) := by decide +kernel
theorem d9_5 : decode jdk_52_method_16_code 5 = .ok (.iload_n 1, 1) := by decide +kernel
theorem d9_6 : decode jdk_52_method_16_code 6 = .ok (.aload_n 3, 1) := by decide +kernel
theorem d9_7 : decode jdk_52_method_16_code 7 = .ok (.iconst 0, 1) := by decide +kernel
theorem d9_8 : decode jdk_52_method_16_code 8 = .ok (.iload_n 2, 1) := by decide +kernel
theorem d9_9 : decode jdk_52_method_16_code 9 = .ok (.invokestatic 115, 3) := by decide +kernel
theorem d9_12 : decode jdk_52_method_16_code 12 = .ok (.istore 4, 2) := by decide +kernel
theorem d9_14 : decode jdk_52_method_16_code 14 = .ok (.iload 4, 2) := by decide +kernel
theorem d9_16 : decode jdk_52_method_16_code 16 = .ok (.iload_n 2, 1) := by decide +kernel
theorem d9_17 : decode jdk_52_method_16_code 17 = .ok (.if_icmp .eq 40, 3) := by decide +kernel
theorem d9_20 : decode jdk_52_method_16_code 20 = .ok (.aload_n 0, 1) := by decide +kernel
theorem d9_21 : decode jdk_52_method_16_code 21 = .ok (.iload_n 1, 1) := by decide +kernel
theorem d9_22 : decode jdk_52_method_16_code 22 = .ok (.iload_n 2, 1) := by decide +kernel
theorem d9_23 : decode jdk_52_method_16_code 23 = .ok (.invokestatic 119, 3) := by decide +kernel
theorem d9_26 : decode jdk_52_method_16_code 26 = .ok (.astore 5, 2) := by decide +kernel
theorem d9_28 : decode jdk_52_method_16_code 28 = .ok (.aload 5, 2) := by decide +kernel
theorem d9_30 : decode jdk_52_method_16_code 30 = .ok (.iload 4, 2) := by decide +kernel
theorem d9_32 : decode jdk_52_method_16_code 32 = .ok (.invokestatic 71, 3) := by decide +kernel
theorem d9_35 : decode jdk_52_method_16_code 35 = .ok (.sipush 255, 3) := by decide +kernel
theorem d9_38 : decode jdk_52_method_16_code 38 = .ok (.if_icmp .gt 16, 3) := by decide +kernel
theorem d9_54 : decode jdk_52_method_16_code 54 = .ok (.aload 5, 2) := by decide +kernel
theorem d9_56 : decode jdk_52_method_16_code 56 = .ok (.areturn, 1) := by decide +kernel
theorem d9_57 : decode jdk_52_method_16_code 57 = .ok (.aload_n 3, 1) := by decide +kernel
theorem d9_58 : decode jdk_52_method_16_code 58 = .ok (.areturn, 1) := by decide +kernel
theorem pd_5 : parseMethodDescriptor "([CI[BII)I" = some ⟨[(.array .char), .int, (.array .byte), .int, .int], some .int⟩ := by decide +kernel
theorem pd_6 : parseMethodDescriptor "([CII)[B" = some ⟨[(.array .char), .int, .int], some (.array .byte)⟩ := by decide +kernel
theorem pd_7 : parseMethodDescriptor "([BI)C" = some ⟨[(.array .byte), .int], some .char⟩ := by decide +kernel
theorem pd_8 : parseMethodDescriptor "([BI[BII)I" = some ⟨[(.array .byte), .int, (.array .byte), .int, .int], some .int⟩ := by decide +kernel
theorem ef_cmp3c (m : MethodId) (a1 : Addr) (cs : List Int32) : entryFrame m #[(.ref a1), (.int (0 : Int32)), (.int (Int32.ofNat cs.length))] 6 = mkF m 0 #[.val (.ref a1), .val (.int (0 : Int32)), .val (.int (Int32.ofNat cs.length)), .unset, .unset, .unset] [] := by first | (simp [entryFrame, mkF, argsToLocals, Value.category]; done) | rfl
def Qcmp3c (Z : State) (a1 : Addr) (k1 : ClassId) (cs : List Int32) (h0 : Heap) (n0 : Nat) (v : Option Value) (h : Heap) (L : List Loc) : Prop := ∃ r : Addr, ∃ k : ClassId, ∃ cd : Int32, ∃ N2 : Int32, ∃ vs : List Value, v = some (.ref r) ∧ Fr n0 L ∧ Keep h0 h [] ∧ (h0.size ≤ r) ∧ (CodA cs cd N2 vs) ∧ (Arv Z h r k .byte N2 vs (.int (0 : Int32)))
theorem rmcmp3c (l : Launch) (Z : State) (a0 : Array Value) (hw : ∀ d ∈ tables_1, d.before a0 Z = true) (ws : List Jvm.Cond) (a1 : Addr) (k1 : ClassId) (cs : List Int32) (h0 : Heap) (n0 : Nat) (Z0 : n0 ≤ h0.size) (O0 : Old Z n0 h0) (Sad : Sta Z Z.heap "java/lang/StringUTF16" "$assertionsDisabled" "Z" (.int (1 : Int32))) (Shi : Sta Z Z.heap "java/lang/StringUTF16" "HI_BYTE_SHIFT" "I" (.int (0 : Int32))) (Slo : Sta Z Z.heap "java/lang/StringUTF16" "LO_BYTE_SHIFT" "I" (.int (8 : Int32))) (A1 : Arv Z h0 a1 k1 .char (Int32.ofNat cs.length) (cs.map Value.int) (.int (0 : Int32))) (hl : cs.length ≤ 103) (hbd : ∀ c ∈ cs, ¬ c < 0 ∧ ¬ (65535 : Int32) < c) :
    MetFree l (⟨"java/lang/StringUTF16", "compress", "([CII)[B"⟩ : MethodName) (head1 (Jvm.Cond.code (⟨"java/lang/StringUTF16", "compress", "([CII)[B"⟩ : MethodName) jdk_52_method_16_code 6 (some (.array .byte)) :: ws) ({ frames := 3, cells := 2, slots := 309, locals := 48 } : Room)) (fun a U => a = #[(.ref a1), (.int (0 : Int32)), (.int (Int32.ofNat cs.length))] ∧ Z.Warmed39 U.vm ∧ U.heap = h0) (fun _ _ _ _ _ => True) (fun _ U o U' => ∃ v L, o = .returned v ∧ Qcmp3c Z a1 k1 cs h0 n0 v U'.heap L ∧ FrameEnd U o U' L ({ frames := 3, cells := 2, slots := 309, locals := 48 } : Room).cells ({ frames := 3, cells := 2, slots := 309, locals := 48 } : Room).slots) := by
  refine MetFree.of_bodySF (plainFor_of_name pn_java_lang_StringUTF16) hisR ?_
  intro p e s m args below meth c s₁ Bd hml0 hP hK
  obtain ⟨rfl, hZ, hH0⟩ := hP
  have hx := Bd.exec
  have hby := Bd.bytes
  have hml : c.maxLocals = 6 := hml0
  have hown : s.vm.findClass "java/lang/StringUTF16" = some m.cls := findClass_of_methodNamed Bd.named
  have hnm := (name_of_methodNamed Bd.named Bd.method).1
  have X0 : Stand p l e ({ frames := 3, cells := 2, slots := 309, locals := 48 } : Room) s m #[(.ref a1), (.int (0 : Int32)), (.int (Int32.ofNat cs.length))] below meth c s₁ [] 0 0 := Stand.of_body Bd
  have e0 : s₁.heap = h0 := by rw [← hH0, Bd.state]; rfl
  have N0 := Fr.nil n0
  refine own_cast (ef_cmp3c m a1 cs) ?_
  show own_Go p e below (fun o U' => ∃ v L, o = .returned v ∧ Qcmp3c Z a1 k1 cs h0 n0 v U'.heap L ∧ FrameEnd s o U' L ({ frames := 3, cells := 2, slots := 309, locals := 48 } : Room).cells ({ frames := 3, cells := 2, slots := 309, locals := 48 } : Room).slots) (s₁.setTop (mkF m 0 #[.val (.ref a1), .val (.int (0 : Int32)), .val (.int (Int32.ofNat cs.length)), .unset, .unset, .unset] []))
  refine own_iloadN X0 hx (hb hby d9_0) (q := 1) rfl rfl ?_
  obtain ⟨T_1, h_1, k_1, X_1, e_1, E_1, A_1, st_1⟩ := newP X0 hx hZ (own_w hw 40 rfl) e0 (g := (mkF m 1 #[.val (.ref a1), .val (.int (0 : Int32)), .val (.int (Int32.ofNat cs.length)), .unset, .unset, .unset] [(.int (Int32.ofNat cs.length))])) rfl (hb hby d9_1) rfl (own_nn (by omega)) (cap := 103) (by rw [own_clamp (by omega)]; omega) (by decide) (by decide) (by decide)
  obtain ⟨b_1, g_1⟩ : ∃ z, z = h0.size := ⟨_, rfl⟩
  rw [← g_1] at A_1 st_1
  have V_1 : Arv Z h_1 b_1 k_1 .byte (Int32.ofNat cs.length) [] (.int (0 : Int32)) := Arv.new A_1 (own_nn (by omega))
  refine own_via st_1 ?_
  show own_Go p e below _ (T_1.setTop (mkF m 3 #[.val (.ref a1), .val (.int (0 : Int32)), .val (.int (Int32.ofNat cs.length)), .unset, .unset, .unset] [(.ref b_1)]))
  have V_2 : Arv Z h_1 b_1 k_1 .byte (Int32.ofNat cs.length) (List.replicate cs.length (.int (0 : Int32))) (.int (0 : Int32)) := V_1.pad (pad_rep [] (.int (0 : Int32)) cs.length)
  refine own_via (fun _ => XS.astoreN X_1.here hx rfl (hb hby d9_3) rfl rfl (l' := #[.val (.ref a1), .val (.int (0 : Int32)), .val (.int (Int32.ofNat cs.length)), .val (.ref b_1), .unset, .unset]) rfl) ?_
  show own_Go p e below _ (T_1.setTop (mkF m 4 #[.val (.ref a1), .val (.int (0 : Int32)), .val (.int (Int32.ofNat cs.length)), .val (.ref b_1), .unset, .unset] []))
  refine own_aloadN X_1 hx (hb hby d9_4) (q := 5) rfl rfl rfl ?_
  refine own_iloadN X_1 hx (hb hby d9_5) (q := 6) rfl rfl ?_
  refine own_aloadN X_1 hx (hb hby d9_6) (q := 7) rfl rfl rfl ?_
  refine own_iconst X_1 hx (hb hby d9_7) (q := 8) (z := (0 : Int32)) rfl rfl ?_
  refine own_iloadN X_1 hx (hb hby d9_8) (q := 9) rfl rfl ?_
  have K_3 : Keep h0 h_1 [] := (Keep.refl h0 []).ext E_1
  obtain ⟨_, _, ⟨T_4, L_4, k_4, n_4⟩, -, X_4, ⟨Lc_4, hQ_4, l_4, y_4, z_4⟩, st_4⟩ := Jvm.LawKit.callS X_1 hx (y := (⟨"java/lang/StringUTF16", "compress", "([CI[BII)I"⟩ : MethodName)) hown (mvT hZ (own_w hw 41 rfl)) (mvT hZ (own_w hw 42 rfl)) (mvT hZ (own_w hw 38 rfl)) (mvT hZ (own_w hw 43 rfl)) (by decide) (backOf (W := 0) (rmcmp5c l Z a0 hw [] a1 k1 cs b_1 k_1 h_1 n0 (Nat.le_trans Z0 K_3.1) (A1.keep K_3 nin0) V_2 hl (Nat.le_trans Z0 (Nat.le_of_eq g_1.symm)) (Nat.ne_of_lt (Nat.lt_of_lt_of_le A1.lt (Nat.le_of_eq g_1.symm)))) hZ (own_w hw 43 rfl) (own_w hw 38 rfl) (by decide) (by decide)) (g := (mkF m 9 #[.val (.ref a1), .val (.int (0 : Int32)), .val (.int (Int32.ofNat cs.length)), .val (.ref b_1), .unset, .unset] [(.int (Int32.ofNat cs.length)), (.int (0 : Int32)), (.ref b_1), (.int (0 : Int32)), (.ref a1)])) rfl (by rw [hml]; rfl) (argsL := [(.ref a1), (.int (0 : Int32)), (.ref b_1), (.int (0 : Int32)), (.int (Int32.ofNat cs.length))]) (rest := []) (lenOf pd_5 rfl) rfl (by show 2 * 0 + _ ≤ _; exact Nat.le_of_eq rfl) (hb hby d9_9) (fun _ _ => ⟨rfl, e_1, (by decide : 1 + 0 ≤ _), (by decide : 103 + 0 ≤ _)⟩)
  dsimp only [Pt.U, Pt.locs, Pt.cells, Pt.slots] at X_4 l_4 y_4 z_4 st_4 hQ_4
  subst l_4 y_4 z_4
  obtain ⟨u_5, rfl, Nq_4, K_4q, q_4_0, q_4_1⟩ := hQ_4
  have N_4 := Fr.app N0 Nq_4
  refine own_via st_4 ?_
  show own_Go p e below _ (T_4.setTop (mkF m 12 #[.val (.ref a1), .val (.int (0 : Int32)), .val (.int (Int32.ofNat cs.length)), .val (.ref b_1), .unset, .unset] [(.int (Int32.ofNat u_5))]))
  refine own_via (fun _ => XS.istore X_4.here hx rfl (hb hby d9_12) rfl (l' := #[.val (.ref a1), .val (.int (0 : Int32)), .val (.int (Int32.ofNat cs.length)), .val (.ref b_1), .val (.int (Int32.ofNat u_5)), .unset]) rfl) ?_
  show own_Go p e below _ (T_4.setTop (mkF m 14 #[.val (.ref a1), .val (.int (0 : Int32)), .val (.int (Int32.ofNat cs.length)), .val (.ref b_1), .val (.int (Int32.ofNat u_5)), .unset] []))
  refine own_iload X_4 hx (hb hby d9_14) (q := 16) rfl rfl ?_
  refine own_iloadN X_4 hx (hb hby d9_16) (q := 17) rfl rfl ?_
  by_cases hk : u_5 = cs.length
  · refine own_via (fun _ => XS.icmpYes X_4.here hx rfl (pc0 := 17) (pc' := 57) rfl (hb hby d9_17) rfl (teq (congrArg Int32.ofNat hk : (Int32.ofNat u_5) = (Int32.ofNat cs.length))).1 (by decide) (by decide)) ?_
    show own_Go p e below _ (T_4.setTop (mkF m 57 #[.val (.ref a1), .val (.int (0 : Int32)), .val (.int (Int32.ofNat cs.length)), .val (.ref b_1), .val (.int (Int32.ofNat u_5)), .unset] []))
    refine own_aloadN X_4 hx (hb hby d9_57) (q := 58) rfl rfl rfl ?_
    subst hk
    have K_6 : Keep h0 T_4.heap [] := Keep.trans (ws := []) K_3 K_4q (allS (Or.inr (Nat.le_of_eq g_1.symm)) all0)
    exact own_retv X_4 Bd.notSynchronized hx Bd.returns rfl (Or.inr (Or.inr (Or.inr (Or.inr ⟨rfl, rfl, rfl⟩)))) (hb hby d9_58) (by decide) (by decide) ⟨b_1, k_1, (0 : Int32), (Int32.ofNat cs.length), (own_low cs cs.length), rfl, N_4, K_6, (Nat.le_of_eq g_1.symm), (own_F0 (by first | exact q_4_0 | simpa using q_4_0)), (by first | exact q_4_1 | simpa using q_4_1)⟩
  · have hkl : u_5 < cs.length := by have := q_4_0.1; omega
    refine own_via (fun _ => XS.icmpNo X_4.here hx rfl (hb hby d9_17) rfl (feq (fun q => hk ((own_eq (by omega) (by omega)).mp q) : ¬ ((Int32.ofNat u_5) = (Int32.ofNat cs.length)))).1) ?_
    show own_Go p e below _ (T_4.setTop (mkF m 20 #[.val (.ref a1), .val (.int (0 : Int32)), .val (.int (Int32.ofNat cs.length)), .val (.ref b_1), .val (.int (Int32.ofNat u_5)), .unset] []))
    refine own_aloadN X_4 hx (hb hby d9_20) (q := 21) rfl rfl rfl ?_
    refine own_iloadN X_4 hx (hb hby d9_21) (q := 22) rfl rfl ?_
    refine own_iloadN X_4 hx (hb hby d9_22) (q := 23) rfl rfl ?_
    have K_7 : Keep h0 T_4.heap [] := Keep.trans (ws := []) K_3 K_4q (allS (Or.inr (Nat.le_of_eq g_1.symm)) all0)
    obtain ⟨_, _, ⟨T_8, L_8, k_8, n_8⟩, -, X_8, ⟨Lc_8, hQ_8, l_8, y_8, z_8⟩, st_8⟩ := Jvm.LawKit.callS X_4 hx (y := (⟨"java/lang/StringUTF16", "toBytes", "([CII)[B"⟩ : MethodName)) hown (mvT hZ (own_w hw 44 rfl)) (mvT hZ (own_w hw 45 rfl)) (mvT hZ (own_w hw 38 rfl)) (mvT hZ (own_w hw 46 rfl)) (by decide) (backOf (W := 0) (rmtoBytes l Z a0 hw [] a1 k1 cs T_4.heap n0 (Nat.le_trans Z0 K_7.1) (O0.keep K_7 all0) Sad Shi Slo (A1.keep K_7 nin0) hl) hZ (own_w hw 46 rfl) (own_w hw 38 rfl) (by decide) (by decide)) (g := (mkF m 23 #[.val (.ref a1), .val (.int (0 : Int32)), .val (.int (Int32.ofNat cs.length)), .val (.ref b_1), .val (.int (Int32.ofNat u_5)), .unset] [(.int (Int32.ofNat cs.length)), (.int (0 : Int32)), (.ref a1)])) rfl (by rw [hml]; rfl) (argsL := [(.ref a1), (.int (0 : Int32)), (.int (Int32.ofNat cs.length))]) (rest := []) (lenOf pd_6 rfl) rfl (by show 2 * 0 + _ ≤ _; exact Nat.le_of_eq rfl) (hb hby d9_23) (fun _ _ => ⟨rfl, rfl, (by decide : 1 + 1 ≤ _), (by decide : 103 + 206 ≤ _)⟩)
    dsimp only [Pt.U, Pt.locs, Pt.cells, Pt.slots] at X_8 l_8 y_8 z_8 st_8 hQ_8
    subst l_8 y_8 z_8
    obtain ⟨r_9, u_10, rfl, Nq_8, K_8q, q_8_0, q_8_1⟩ := hQ_8
    have N_8 := Fr.app N_4 Nq_8
    refine own_via st_8 ?_
    show own_Go p e below _ (T_8.setTop (mkF m 26 #[.val (.ref a1), .val (.int (0 : Int32)), .val (.int (Int32.ofNat cs.length)), .val (.ref b_1), .val (.int (Int32.ofNat u_5)), .unset] [(.ref r_9)]))
    refine own_via (fun _ => XS.astore X_8.here hx rfl (hb hby d9_26) rfl rfl (l' := #[.val (.ref a1), .val (.int (0 : Int32)), .val (.int (Int32.ofNat cs.length)), .val (.ref b_1), .val (.int (Int32.ofNat u_5)), .val (.ref r_9)]) rfl) ?_
    show own_Go p e below _ (T_8.setTop (mkF m 28 #[.val (.ref a1), .val (.int (0 : Int32)), .val (.int (Int32.ofNat cs.length)), .val (.ref b_1), .val (.int (Int32.ofNat u_5)), .val (.ref r_9)] []))
    refine own_aload X_8 hx (hb hby d9_28) (q := 30) rfl rfl rfl ?_
    refine own_iload X_8 hx (hb hby d9_30) (q := 32) rfl rfl ?_
    have K_11 : Keep h0 T_8.heap [] := Keep.trans (ws := []) K_7 K_8q all0
    obtain ⟨_, _, ⟨T_12, L_12, k_12, n_12⟩, -, X_12, ⟨Lc_12, hQ_12, l_12, y_12, z_12⟩, st_12⟩ := Jvm.LawKit.callS X_8 hx (y := (⟨"java/lang/StringUTF16", "getChar", "([BI)C"⟩ : MethodName)) hown (mvT hZ (own_w hw 60 rfl)) (mvT hZ (own_w hw 61 rfl)) (mvT hZ (own_w hw 38 rfl)) (mvT hZ (own_w hw 62 rfl)) (by decide) (backOf (W := 0) (rmgetChar l Z a0 hw [] r_9 u_10 cs u_5 T_8.heap n0 (Nat.le_trans Z0 K_11.1) (O0.keep K_11 all0) Sad Shi Slo q_8_1 hl hkl hbd) hZ (own_w hw 62 rfl) (own_w hw 38 rfl) (by decide) (by decide)) (g := (mkF m 32 #[.val (.ref a1), .val (.int (0 : Int32)), .val (.int (Int32.ofNat cs.length)), .val (.ref b_1), .val (.int (Int32.ofNat u_5)), .val (.ref r_9)] [(.int (Int32.ofNat u_5)), (.ref r_9)])) rfl (by rw [hml]; rfl) (argsL := [(.ref r_9), (.int (Int32.ofNat u_5))]) (rest := []) (lenOf pd_7 rfl) rfl (by show 2 * 0 + _ ≤ _; exact Nat.le_of_eq rfl) (hb hby d9_32) (fun _ _ => ⟨rfl, rfl, (by decide : 2 + 0 ≤ _), (by decide : 309 + 0 ≤ _)⟩)
    dsimp only [Pt.U, Pt.locs, Pt.cells, Pt.slots] at X_12 l_12 y_12 z_12 st_12 hQ_12
    subst l_12 y_12 z_12
    obtain ⟨rfl, Nq_12, e_12⟩ := hQ_12
    have N_12 := Fr.app N_8 Nq_12
    refine own_via st_12 ?_
    show own_Go p e below _ (T_12.setTop (mkF m 35 #[.val (.ref a1), .val (.int (0 : Int32)), .val (.int (Int32.ofNat cs.length)), .val (.ref b_1), .val (.int (Int32.ofNat u_5)), .val (.ref r_9)] [(.int (cs.getD u_5 0))]))
    refine own_sipush X_12 hx (hb hby d9_35) (q := 38) (z := (255 : Int32)) rfl rfl ?_
    refine own_via (fun _ => XS.icmpYes X_12.here hx rfl (pc0 := 38) (pc' := 54) rfl (hb hby d9_38) rfl (tlt (q_4_0.2.2 hkl : (255 : Int32) < (cs.getD u_5 0))).2.2.1 (by decide) (by decide)) ?_
    show own_Go p e below _ (T_12.setTop (mkF m 54 #[.val (.ref a1), .val (.int (0 : Int32)), .val (.int (Int32.ofNat cs.length)), .val (.ref b_1), .val (.int (Int32.ofNat u_5)), .val (.ref r_9)] []))
    refine own_aload X_12 hx (hb hby d9_54) (q := 56) rfl rfl rfl ?_
    exact own_retv X_12 Bd.notSynchronized hx Bd.returns rfl (Or.inr (Or.inr (Or.inr (Or.inr ⟨rfl, rfl, rfl⟩)))) (hb hby d9_56) (by decide) (by decide) (by rw [e_12]; exact ⟨r_9, u_10, (1 : Int32), (Int32.ofNat (2 * cs.length)), (wideBytes cs), rfl, N_12, K_11, (Nat.le_trans K_7.1 q_8_0), (own_F1 q_4_0 hk), q_8_1⟩)
theorem d16_0 : decode jdk_52_method_15_code 0 = .ok (.iload_n 1, 1) := by decide +kernel
theorem d16_1 : decode jdk_52_method_15_code 1 = .ok (.aload_n 0, 1) := by decide +kernel
theorem d16_2 : decode jdk_52_method_15_code 2 = .ok (.arraylength, 1) := by decide +kernel
theorem d16_3 : decode jdk_52_method_15_code 3 = .ok (.isub, 1) := by decide +kernel
theorem d16_4 : decode jdk_52_method_15_code 4 = .ok (.bipush 31, 2) := by decide +kernel
theorem d16_6 : decode jdk_52_method_15_code 6 = .ok (.iushr, 1) := by decide +kernel
theorem d16_7 : decode jdk_52_method_15_code 7 = .ok (.i2b, 1) := by decide +kernel
theorem d16_8 : decode jdk_52_method_15_code 8 = .ok (.ireturn, 1) := by decide +kernel
theorem ef_cdr0 (m : MethodId) (a1 : Addr) (n : Nat) : entryFrame m #[(.ref a1), (.int (Int32.ofNat n))] 2 = mkF m 0 #[.val (.ref a1), .val (.int (Int32.ofNat n))] [] := by first | (simp [entryFrame, mkF, argsToLocals, Value.category]; done) | rfl
def Qcdr0 (Z : State) (a1 : Addr) (k1 : ClassId) (n : Nat) (vs : List Value) (h0 : Heap) (n0 : Nat) (v : Option Value) (h : Heap) (L : List Loc) : Prop := v = some (.int (0 : Int32)) ∧ Fr n0 L ∧ h = h0
theorem rmcdr0 (l : Launch) (Z : State) (a0 : Array Value) (hw : ∀ d ∈ tables_1, d.before a0 Z = true) (ws : List Jvm.Cond) (a1 : Addr) (k1 : ClassId) (n : Nat) (vs : List Value) (h0 : Heap) (n0 : Nat) (Z0 : n0 ≤ h0.size) (A1 : Arv Z h0 a1 k1 .byte (Int32.ofNat n) vs (.int (0 : Int32))) (hn : n ≤ 103) :
    MetFree l (⟨"java/lang/StringUTF16", "coderFromArrayLen", "([BI)B"⟩ : MethodName) (head1 (Jvm.Cond.code (⟨"java/lang/StringUTF16", "coderFromArrayLen", "([BI)B"⟩ : MethodName) jdk_52_method_15_code 2 (some .byte) :: ws) ({ frames := 0, cells := 0, slots := 0, locals := 0 } : Room)) (fun a U => a = #[(.ref a1), (.int (Int32.ofNat n))] ∧ Z.Warmed39 U.vm ∧ U.heap = h0) (fun _ _ _ _ _ => True) (fun _ U o U' => ∃ v L, o = .returned v ∧ Qcdr0 Z a1 k1 n vs h0 n0 v U'.heap L ∧ FrameEnd U o U' L ({ frames := 0, cells := 0, slots := 0, locals := 0 } : Room).cells ({ frames := 0, cells := 0, slots := 0, locals := 0 } : Room).slots) := by
  refine MetFree.of_bodySF (plainFor_of_name pn_java_lang_StringUTF16) hisR ?_
  intro p e s m args below meth c s₁ Bd hml0 hP hK
  obtain ⟨rfl, hZ, hH0⟩ := hP
  have hx := Bd.exec
  have hby := Bd.bytes
  have hml : c.maxLocals = 2 := hml0
  have hown : s.vm.findClass "java/lang/StringUTF16" = some m.cls := findClass_of_methodNamed Bd.named
  have hnm := (name_of_methodNamed Bd.named Bd.method).1
  have X0 : Stand p l e ({ frames := 0, cells := 0, slots := 0, locals := 0 } : Room) s m #[(.ref a1), (.int (Int32.ofNat n))] below meth c s₁ [] 0 0 := Stand.of_body Bd
  have e0 : s₁.heap = h0 := by rw [← hH0, Bd.state]; rfl
  have N0 := Fr.nil n0
  refine own_cast (ef_cdr0 m a1 n) ?_
  show own_Go p e below (fun o U' => ∃ v L, o = .returned v ∧ Qcdr0 Z a1 k1 n vs h0 n0 v U'.heap L ∧ FrameEnd s o U' L ({ frames := 0, cells := 0, slots := 0, locals := 0 } : Room).cells ({ frames := 0, cells := 0, slots := 0, locals := 0 } : Room).slots) (s₁.setTop (mkF m 0 #[.val (.ref a1), .val (.int (Int32.ofNat n))] []))
  refine own_iloadN X0 hx (hb hby d16_0) (q := 1) rfl rfl ?_
  refine own_aloadN X0 hx (hb hby d16_1) (q := 2) rfl rfl rfl ?_
  obtain ⟨cl_1, Ar_1, q_1, S_1, M_1, H_1, G_1⟩ := (id A1)
  refine own_via (X0.arraylength hx (by rw [e0]; exact Ar_1.1) (State.isArrayOf_alike hZ.alike Ar_1.2.1) (g := (mkF m 2 #[.val (.ref a1), .val (.int (Int32.ofNat n))] [(.ref a1), (.int (Int32.ofNat n))])) rfl rfl (hb hby d16_2)) ?_
  rw [len_of S_1 M_1]
  show own_Go p e below _ (s₁.setTop (mkF m 3 #[.val (.ref a1), .val (.int (Int32.ofNat n))] [(.int (Int32.ofNat n)), (.int (Int32.ofNat n))]))
  refine own_via (fun _ => XS.isub X0.here hx rfl (hb hby d16_3) rfl) ?_
  show own_Go p e below _ (s₁.setTop (mkF m 4 #[.val (.ref a1), .val (.int (Int32.ofNat n))] [(.int ((Int32.ofNat n) - (Int32.ofNat n)))]))
  refine own_bipush X0 hx (hb hby d16_4) (q := 6) (z := (31 : Int32)) rfl rfl ?_
  refine own_via (fun _ => XS.iushr X0.here hx rfl (hb hby d16_6) rfl) ?_
  show own_Go p e below _ (s₁.setTop (mkF m 7 #[.val (.ref a1), .val (.int (Int32.ofNat n))] [(.int ((((Int32.ofNat n) - (Int32.ofNat n)).toUInt32 >>> ((31 : Int32) &&& 31).toUInt32).toInt32))]))
  refine own_via (fun _ => XS.i2b X0.here hx rfl (hb hby d16_7) rfl) ?_
  show own_Go p e below _ (s₁.setTop (mkF m 8 #[.val (.ref a1), .val (.int (Int32.ofNat n))] [(.int (((((Int32.ofNat n) - (Int32.ofNat n)).toUInt32 >>> ((31 : Int32) &&& 31).toUInt32).toInt32).toInt8.toInt32))]))
  rw [own_cdr0 hn]
  show own_Go p e below _ (s₁.setTop (mkF m 8 #[.val (.ref a1), .val (.int (Int32.ofNat n))] [(.int (0 : Int32))]))
  exact own_retv X0 Bd.notSynchronized hx Bd.returns rfl (Or.inl ⟨rfl, (by simp), _, rfl⟩) (hb hby d16_8) (by decide) (by decide) (by rw [e0]; exact ⟨rfl, N0, rfl⟩)
theorem ef_cdr1 (m : MethodId) (a1 : Addr) (n : Nat) : entryFrame m #[(.ref a1), (.int (Int32.ofNat n))] 2 = mkF m 0 #[.val (.ref a1), .val (.int (Int32.ofNat n))] [] := by first | (simp [entryFrame, mkF, argsToLocals, Value.category]; done) | rfl
def Qcdr1 (Z : State) (a1 : Addr) (k1 : ClassId) (n : Nat) (vs : List Value) (h0 : Heap) (n0 : Nat) (v : Option Value) (h : Heap) (L : List Loc) : Prop := v = some (.int (1 : Int32)) ∧ Fr n0 L ∧ h = h0
theorem rmcdr1 (l : Launch) (Z : State) (a0 : Array Value) (hw : ∀ d ∈ tables_1, d.before a0 Z = true) (ws : List Jvm.Cond) (a1 : Addr) (k1 : ClassId) (n : Nat) (vs : List Value) (h0 : Heap) (n0 : Nat) (Z0 : n0 ≤ h0.size) (A1 : Arv Z h0 a1 k1 .byte (Int32.ofNat (2 * n)) vs (.int (0 : Int32))) (hn : n ≤ 103) (hz0 : 0 < n) :
    MetFree l (⟨"java/lang/StringUTF16", "coderFromArrayLen", "([BI)B"⟩ : MethodName) (head1 (Jvm.Cond.code (⟨"java/lang/StringUTF16", "coderFromArrayLen", "([BI)B"⟩ : MethodName) jdk_52_method_15_code 2 (some .byte) :: ws) ({ frames := 0, cells := 0, slots := 0, locals := 0 } : Room)) (fun a U => a = #[(.ref a1), (.int (Int32.ofNat n))] ∧ Z.Warmed39 U.vm ∧ U.heap = h0) (fun _ _ _ _ _ => True) (fun _ U o U' => ∃ v L, o = .returned v ∧ Qcdr1 Z a1 k1 n vs h0 n0 v U'.heap L ∧ FrameEnd U o U' L ({ frames := 0, cells := 0, slots := 0, locals := 0 } : Room).cells ({ frames := 0, cells := 0, slots := 0, locals := 0 } : Room).slots) := by
  refine MetFree.of_bodySF (plainFor_of_name pn_java_lang_StringUTF16) hisR ?_
  intro p e s m args below meth c s₁ Bd hml0 hP hK
  obtain ⟨rfl, hZ, hH0⟩ := hP
  have hx := Bd.exec
  have hby := Bd.bytes
  have hml : c.maxLocals = 2 := hml0
  have hown : s.vm.findClass "java/lang/StringUTF16" = some m.cls := findClass_of_methodNamed Bd.named
  have hnm := (name_of_methodNamed Bd.named Bd.method).1
  have X0 : Stand p l e ({ frames := 0, cells := 0, slots := 0, locals := 0 } : Room) s m #[(.ref a1), (.int (Int32.ofNat n))] below meth c s₁ [] 0 0 := Stand.of_body Bd
  have e0 : s₁.heap = h0 := by rw [← hH0, Bd.state]; rfl
  have N0 := Fr.nil n0
  refine own_cast (ef_cdr1 m a1 n) ?_
  show own_Go p e below (fun o U' => ∃ v L, o = .returned v ∧ Qcdr1 Z a1 k1 n vs h0 n0 v U'.heap L ∧ FrameEnd s o U' L ({ frames := 0, cells := 0, slots := 0, locals := 0 } : Room).cells ({ frames := 0, cells := 0, slots := 0, locals := 0 } : Room).slots) (s₁.setTop (mkF m 0 #[.val (.ref a1), .val (.int (Int32.ofNat n))] []))
  refine own_iloadN X0 hx (hb hby d16_0) (q := 1) rfl rfl ?_
  refine own_aloadN X0 hx (hb hby d16_1) (q := 2) rfl rfl rfl ?_
  obtain ⟨cl_1, Ar_1, q_1, S_1, M_1, H_1, G_1⟩ := (id A1)
  refine own_via (X0.arraylength hx (by rw [e0]; exact Ar_1.1) (State.isArrayOf_alike hZ.alike Ar_1.2.1) (g := (mkF m 2 #[.val (.ref a1), .val (.int (Int32.ofNat n))] [(.ref a1), (.int (Int32.ofNat n))])) rfl rfl (hb hby d16_2)) ?_
  rw [len_of S_1 M_1]
  show own_Go p e below _ (s₁.setTop (mkF m 3 #[.val (.ref a1), .val (.int (Int32.ofNat n))] [(.int (Int32.ofNat (2 * n))), (.int (Int32.ofNat n))]))
  refine own_via (fun _ => XS.isub X0.here hx rfl (hb hby d16_3) rfl) ?_
  show own_Go p e below _ (s₁.setTop (mkF m 4 #[.val (.ref a1), .val (.int (Int32.ofNat n))] [(.int ((Int32.ofNat n) - (Int32.ofNat (2 * n))))]))
  refine own_bipush X0 hx (hb hby d16_4) (q := 6) (z := (31 : Int32)) rfl rfl ?_
  refine own_via (fun _ => XS.iushr X0.here hx rfl (hb hby d16_6) rfl) ?_
  show own_Go p e below _ (s₁.setTop (mkF m 7 #[.val (.ref a1), .val (.int (Int32.ofNat n))] [(.int ((((Int32.ofNat n) - (Int32.ofNat (2 * n))).toUInt32 >>> ((31 : Int32) &&& 31).toUInt32).toInt32))]))
  refine own_via (fun _ => XS.i2b X0.here hx rfl (hb hby d16_7) rfl) ?_
  show own_Go p e below _ (s₁.setTop (mkF m 8 #[.val (.ref a1), .val (.int (Int32.ofNat n))] [(.int (((((Int32.ofNat n) - (Int32.ofNat (2 * n))).toUInt32 >>> ((31 : Int32) &&& 31).toUInt32).toInt32).toInt8.toInt32))]))
  rw [own_cdr1 hn hz0]
  show own_Go p e below _ (s₁.setTop (mkF m 8 #[.val (.ref a1), .val (.int (Int32.ofNat n))] [(.int (1 : Int32))]))
  exact own_retv X0 Bd.notSynchronized hx Bd.returns rfl (Or.inl ⟨rfl, (by simp), _, rfl⟩) (hb hby d16_8) (by decide) (by decide) (by rw [e0]; exact ⟨rfl, N0, rfl⟩)
theorem d7_0 : decode jdk_42_method_149_code 0 = .ok (.aload_n 0, 1) := by decide +kernel
theorem d7_1 : decode jdk_42_method_149_code 1 = .ok (.invokespecial 1, 3) := by decide +kernel
theorem d7_4 : decode jdk_42_method_149_code 4 = .ok (.iload_n 3, 1) := by decide +kernel
theorem d7_5 : decode jdk_42_method_149_code 5 = .ok (.ifCond .ne 22, 3) := by decide +kernel
theorem d7_27 : decode jdk_42_method_149_code 27 = .ok (.getstatic 38, 3) := by decide +kernel
theorem d7_30 : decode jdk_42_method_149_code 30 = .ok (.ifCond .eq 28, 3) := by decide +kernel
theorem d7_33 : decode jdk_42_method_149_code 33 = .ok (.aload_n 1, 1) := by decide +kernel
theorem d7_34 : decode jdk_42_method_149_code 34 = .ok (.iload_n 2, 1) := by decide +kernel
theorem d7_35 : decode jdk_42_method_149_code 35 = .ok (.iload_n 3, 1) := by decide +kernel
theorem d7_36 : decode jdk_42_method_149_code 36 = .ok (.invokestatic 177, 3) := by decide +kernel
theorem d7_39 : decode jdk_42_method_149_code 39 = .ok (.astore 5, 2) := by decide +kernel
theorem d7_41 : decode jdk_42_method_149_code 41 = .ok (.aload_n 0, 1) := by decide +kernel
theorem d7_42 : decode jdk_42_method_149_code 42 = .ok (.aload 5, 2) := by decide +kernel
theorem d7_44 : decode jdk_42_method_149_code 44 = .ok (.iload_n 3, 1) := by decide +kernel
theorem d7_45 : decode jdk_42_method_149_code 45 = .ok (.invokestatic 47, 3) := by decide +kernel
theorem d7_48 : decode jdk_42_method_149_code 48 = .ok (.putfield 15, 3) := by decide +kernel
theorem d7_51 : decode jdk_42_method_149_code 51 = .ok (.aload_n 0, 1) := by decide +kernel
theorem d7_52 : decode jdk_42_method_149_code 52 = .ok (.aload 5, 2) := by decide +kernel
theorem d7_54 : decode jdk_42_method_149_code 54 = .ok (.putfield 9, 3) := by decide +kernel
theorem d7_57 : decode jdk_42_method_149_code 57 = .ok (.return_, 1) := by decide +kernel
theorem pd_9 : parseMethodDescriptor "()V" = some ⟨[], none⟩ := by decide +kernel
theorem pd_10 : parseMethodDescriptor "([BI)B" = some ⟨[(.array .byte), .int], some .byte⟩ := by decide +kernel
theorem pn_java_lang_String : plainName "java/lang/String" = true := by first | (simp [plainName, overriddenIn]; done) | decide +kernel
theorem ef_strV (m : MethodId) (a1 : Addr) (a2 : Addr) (cs : List Int32) : entryFrame m #[(.ref a1), (.ref a2), (.int (0 : Int32)), (.int (Int32.ofNat cs.length)), .null] 6 = mkF m 0 #[.val (.ref a1), .val (.ref a2), .val (.int (0 : Int32)), .val (.int (Int32.ofNat cs.length)), .val .null, .unset] [] := by first | (simp [entryFrame, mkF, argsToLocals, Value.category]; done) | rfl
def QstrV (Z : State) (a1 : Addr) (a2 : Addr) (k2 : ClassId) (cs : List Int32) (cz : Int32) (h0 : Heap) (n0 : Nat) (v : Option Value) (h : Heap) (L : List Loc) : Prop := v = none ∧ Fr n0 L ∧ Keep h0 h [a1] ∧ (own_S Z h a1 cs)
theorem rmstrV (l : Launch) (Z : State) (a0 : Array Value) (hw : ∀ d ∈ tables_1, d.before a0 Z = true) (ws : List Jvm.Cond) (a1 : Addr) (a2 : Addr) (k2 : ClassId) (cs : List Int32) (cz : Int32) (h0 : Heap) (n0 : Nat) (Z0 : n0 ≤ h0.size) (O0 : Old Z n0 h0) (Sad : Sta Z Z.heap "java/lang/StringUTF16" "$assertionsDisabled" "Z" (.int (1 : Int32))) (Shi : Sta Z Z.heap "java/lang/StringUTF16" "HI_BYTE_SHIFT" "I" (.int (0 : Int32))) (Slo : Sta Z Z.heap "java/lang/StringUTF16" "LO_BYTE_SHIFT" "I" (.int (8 : Int32))) (Scs : Sta Z Z.heap "java/lang/String" "COMPACT_STRINGS" "Z" (.int cz)) (hcs : ¬ (cz = (0 : Int32))) (E1 : Exa Z h0 a1 "java/lang/String") (F1 : Fld Z h0 a1 "java/lang/String" "value" "[B" .null) (F2 : Fld Z h0 a1 "java/lang/String" "coder" "B" (.int (0 : Int32))) (g1 : n0 ≤ a1) (A2 : Arv Z h0 a2 k2 .char (Int32.ofNat cs.length) (cs.map Value.int) (.int (0 : Int32))) (hl : cs.length ≤ 103) (hbd : ∀ c ∈ cs, ¬ c < 0 ∧ ¬ (65535 : Int32) < c) (hz0 : 0 < cs.length) :
    MetFree l (⟨"java/lang/String", "<init>", "([CIILjava/lang/Void;)V"⟩ : MethodName) (head1 (Jvm.Cond.code (⟨"java/lang/String", "<init>", "([CIILjava/lang/Void;)V"⟩ : MethodName) jdk_42_method_149_code 6 none :: ws) ({ frames := 4, cells := 2, slots := 309, locals := 66 } : Room)) (fun a U => a = #[(.ref a1), (.ref a2), (.int (0 : Int32)), (.int (Int32.ofNat cs.length)), .null] ∧ Z.Warmed39 U.vm ∧ U.heap = h0) (fun _ _ _ _ _ => True) (fun _ U o U' => ∃ v L, o = .returned v ∧ QstrV Z a1 a2 k2 cs cz h0 n0 v U'.heap L ∧ FrameEnd U o U' L ({ frames := 4, cells := 2, slots := 309, locals := 66 } : Room).cells ({ frames := 4, cells := 2, slots := 309, locals := 66 } : Room).slots) := by
  refine MetFree.of_bodySF (plainFor_of_name pn_java_lang_String) hisR ?_
  intro p e s m args below meth c s₁ Bd hml0 hP hK
  obtain ⟨rfl, hZ, hH0⟩ := hP
  have hx := Bd.exec
  have hby := Bd.bytes
  have hml : c.maxLocals = 6 := hml0
  have hown : s.vm.findClass "java/lang/String" = some m.cls := findClass_of_methodNamed Bd.named
  have hnm := (name_of_methodNamed Bd.named Bd.method).1
  have X0 : Stand p l e ({ frames := 4, cells := 2, slots := 309, locals := 66 } : Room) s m #[(.ref a1), (.ref a2), (.int (0 : Int32)), (.int (Int32.ofNat cs.length)), .null] below meth c s₁ [] 0 0 := Stand.of_body Bd
  have e0 : s₁.heap = h0 := by rw [← hH0, Bd.state]; rfl
  have N0 := Fr.nil n0
  refine own_cast (ef_strV m a1 a2 cs) ?_
  show own_Go p e below (fun o U' => ∃ v L, o = .returned v ∧ QstrV Z a1 a2 k2 cs cz h0 n0 v U'.heap L ∧ FrameEnd s o U' L ({ frames := 4, cells := 2, slots := 309, locals := 66 } : Room).cells ({ frames := 4, cells := 2, slots := 309, locals := 66 } : Room).slots) (s₁.setTop (mkF m 0 #[.val (.ref a1), .val (.ref a2), .val (.int (0 : Int32)), .val (.int (Int32.ofNat cs.length)), .val .null, .unset] []))
  refine own_aloadN X0 hx (hb hby d7_0) (q := 1) rfl rfl rfl ?_
  obtain ⟨T_1, X_1, e_1, st_1⟩ := initO X0 hx hZ hown (own_w hw 32 rfl) (own_w hw 33 rfl) (own_w hw 34 rfl) e0 (g := (mkF m 1 #[.val (.ref a1), .val (.ref a2), .val (.int (0 : Int32)), .val (.int (Int32.ofNat cs.length)), .val .null, .unset] [(.ref a1)])) rfl (by rw [hml]; rfl) rfl (hb hby d7_1) (by decide) (W := 0) (by show 2 * 0 + _ ≤ _; exact Nat.le_of_eq rfl) (by decide)
  refine own_via st_1 ?_
  show own_Go p e below _ (T_1.setTop (mkF m 4 #[.val (.ref a1), .val (.ref a2), .val (.int (0 : Int32)), .val (.int (Int32.ofNat cs.length)), .val .null, .unset] []))
  refine own_iloadN X_1 hx (hb hby d7_4) (q := 5) rfl rfl ?_
  refine own_via (fun _ => XS.ifYes X_1.here hx rfl (pc0 := 5) (pc' := 27) rfl (hb hby d7_5) rfl ((if0 _ _).trans (feq (fun q => absurd ((own_eq (i := cs.length) (j := 0) (by omega) (by decide)).mp q) (by omega) : ¬ ((Int32.ofNat cs.length) = (0 : Int32)))).2) (by decide) (by decide)) ?_
  show own_Go p e below _ (T_1.setTop (mkF m 27 #[.val (.ref a1), .val (.ref a2), .val (.int (0 : Int32)), .val (.int (Int32.ofNat cs.length)), .val .null, .unset] []))
  obtain ⟨T_2, X_2, e_2, st_2⟩ := getS2 X_1 hx hZ hown (host := "") (Or.inl (own_w hw 35 rfl)) Via.refl e_1 (Scs.ext O0.2) (g := (mkF m 27 #[.val (.ref a1), .val (.ref a2), .val (.int (0 : Int32)), .val (.int (Int32.ofNat cs.length)), .val .null, .unset] [])) rfl (hb hby d7_27)
  refine own_via st_2 ?_
  show own_Go p e below _ (T_2.setTop (mkF m 30 #[.val (.ref a1), .val (.ref a2), .val (.int (0 : Int32)), .val (.int (Int32.ofNat cs.length)), .val .null, .unset] [(.int cz)]))
  refine own_via (fun _ => XS.ifNo X_2.here hx rfl (hb hby d7_30) rfl ((if0 _ _).trans (feq (hcs : ¬ (cz = (0 : Int32)))).1)) ?_
  show own_Go p e below _ (T_2.setTop (mkF m 33 #[.val (.ref a1), .val (.ref a2), .val (.int (0 : Int32)), .val (.int (Int32.ofNat cs.length)), .val .null, .unset] []))
  refine own_aloadN X_2 hx (hb hby d7_33) (q := 34) rfl rfl rfl ?_
  refine own_iloadN X_2 hx (hb hby d7_34) (q := 35) rfl rfl ?_
  refine own_iloadN X_2 hx (hb hby d7_35) (q := 36) rfl rfl ?_
  obtain ⟨_, _, ⟨T_3, L_3, k_3, n_3⟩, -, X_3, ⟨Lc_3, hQ_3, l_3, y_3, z_3⟩, st_3⟩ := Jvm.LawKit.callS X_2 hx (y := (⟨"java/lang/StringUTF16", "compress", "([CII)[B"⟩ : MethodName)) hown (mvT hZ (own_w hw 36 rfl)) (mvT hZ (own_w hw 37 rfl)) (mvT hZ (own_w hw 38 rfl)) (mvT hZ (own_w hw 39 rfl)) (by decide) (backOf (W := 0) (rmcmp3c l Z a0 hw [] a2 k2 cs h0 n0 Z0 O0 Sad Shi Slo A2 hl hbd) hZ (own_w hw 39 rfl) (own_w hw 38 rfl) (by decide) (by decide)) (g := (mkF m 36 #[.val (.ref a1), .val (.ref a2), .val (.int (0 : Int32)), .val (.int (Int32.ofNat cs.length)), .val .null, .unset] [(.int (Int32.ofNat cs.length)), (.int (0 : Int32)), (.ref a2)])) rfl (by rw [hml]; rfl) (argsL := [(.ref a2), (.int (0 : Int32)), (.int (Int32.ofNat cs.length))]) (rest := []) (lenOf pd_6 rfl) rfl (by show 2 * 0 + _ ≤ _; exact Nat.le_of_eq rfl) (hb hby d7_36) (fun _ _ => ⟨rfl, e_2, (by decide : 0 + 2 ≤ _), (by decide : 0 + 309 ≤ _)⟩)
  dsimp only [Pt.U, Pt.locs, Pt.cells, Pt.slots] at X_3 l_3 y_3 z_3 st_3 hQ_3
  subst l_3 y_3 z_3
  obtain ⟨r_4, u_5, i_6, i_7, u_8, rfl, Nq_3, K_3q, q_3_0, q_3_1, q_3_2⟩ := hQ_3
  have N_3 := Fr.app N0 Nq_3
  refine own_via st_3 ?_
  show own_Go p e below _ (T_3.setTop (mkF m 39 #[.val (.ref a1), .val (.ref a2), .val (.int (0 : Int32)), .val (.int (Int32.ofNat cs.length)), .val .null, .unset] [(.ref r_4)]))
  refine own_via (fun _ => XS.astore X_3.here hx rfl (hb hby d7_39) rfl rfl (l' := #[.val (.ref a1), .val (.ref a2), .val (.int (0 : Int32)), .val (.int (Int32.ofNat cs.length)), .val .null, .val (.ref r_4)]) rfl) ?_
  show own_Go p e below _ (T_3.setTop (mkF m 41 #[.val (.ref a1), .val (.ref a2), .val (.int (0 : Int32)), .val (.int (Int32.ofNat cs.length)), .val .null, .val (.ref r_4)] []))
  refine own_aloadN X_3 hx (hb hby d7_41) (q := 42) rfl rfl rfl ?_
  refine own_aload X_3 hx (hb hby d7_42) (q := 44) rfl rfl rfl ?_
  refine own_iloadN X_3 hx (hb hby d7_44) (q := 45) rfl rfl ?_
  rcases q_3_1 with ⟨rfl, rfl, rfl, hal⟩ | ⟨rfl, rfl, rfl, hal⟩
  · have K_9 : Keep h0 T_3.heap [] := Keep.trans (ws := []) (Keep.refl h0 []) K_3q all0
    obtain ⟨_, _, ⟨T_10, L_10, k_10, n_10⟩, -, X_10, ⟨Lc_10, hQ_10, l_10, y_10, z_10⟩, st_10⟩ := Jvm.LawKit.callS X_3 hx (y := (⟨"java/lang/StringUTF16", "coderFromArrayLen", "([BI)B"⟩ : MethodName)) hown (mvT hZ (own_w hw 63 rfl)) (mvT hZ (own_w hw 64 rfl)) (mvT hZ (own_w hw 38 rfl)) (mvT hZ (own_w hw 65 rfl)) (by decide) (backOf (W := 1) (rmcdr0 l Z a0 hw [] r_4 u_5 cs.length (cs.map fun c => Value.int (lo8 c)) T_3.heap n0 (Nat.le_trans Z0 K_9.1) q_3_2 hl) hZ (own_w hw 65 rfl) (own_w hw 38 rfl) (by decide) (by decide)) (g := (mkF m 45 #[.val (.ref a1), .val (.ref a2), .val (.int (0 : Int32)), .val (.int (Int32.ofNat cs.length)), .val .null, .val (.ref r_4)] [(.int (Int32.ofNat cs.length)), (.ref r_4), (.ref a1)])) rfl (by rw [hml]; rfl) (argsL := [(.ref r_4), (.int (Int32.ofNat cs.length))]) (rest := [(.ref a1)]) (lenOf pd_10 rfl) rfl (by show 2 * 0 + _ ≤ _; exact Nat.le_of_eq rfl) (hb hby d7_45) (fun _ _ => ⟨rfl, rfl, (by decide : 2 + 0 ≤ _), (by decide : 309 + 0 ≤ _)⟩)
    dsimp only [Pt.U, Pt.locs, Pt.cells, Pt.slots] at X_10 l_10 y_10 z_10 st_10 hQ_10
    subst l_10 y_10 z_10
    obtain ⟨rfl, Nq_10, e_10⟩ := hQ_10
    have N_10 := Fr.app N_3 Nq_10
    refine own_via st_10 ?_
    show own_Go p e below _ (T_10.setTop (mkF m 48 #[.val (.ref a1), .val (.ref a2), .val (.int (0 : Int32)), .val (.int (Int32.ofNat cs.length)), .val .null, .val (.ref r_4)] [(.int (0 : Int32)), (.ref a1)]))
    obtain ⟨T_11, h_11, X_11, e_11, W_11, st_11⟩ := putFN X_10 hx hZ hown (own_w hw 66 rfl) Via.refl e_10 (F2.keep K_9 nin0) (E1.keep K_9) (Or.inr ⟨(own_w hw 67 rfl), rfl, hnm⟩) (own_w hw 23 rfl) (ty := .byte) (v' := (.int (0 : Int32))) (by decide) rfl rfl (g := (mkF m 48 #[.val (.ref a1), .val (.ref a2), .val (.int (0 : Int32)), .val (.int (Int32.ofNat cs.length)), .val .null, .val (.ref r_4)] [(.int (0 : Int32)), (.ref a1)])) rfl rfl (hb hby d7_48)
    have F_12 : Fld Z h_11 a1 "java/lang/String" "value" "[B" .null := (F1.keep K_9 nin0).other W_11 (Or.inr (slot_ne (Or.inr (own_w hw 69 rfl)) (Or.inr (own_w hw 67 rfl)) (by decide) (t := (.array .byte)) (t' := .byte) (by decide) (by decide)))
    have F_13 : Fld Z h_11 a1 "java/lang/String" "coder" "B" (.int (0 : Int32)) := (F2.keep K_9 nin0).same W_11
    have N_11 := Fr.snoc X_11 N_10 g1
    refine own_via st_11 ?_
    show own_Go p e below _ (T_11.setTop (mkF m 51 #[.val (.ref a1), .val (.ref a2), .val (.int (0 : Int32)), .val (.int (Int32.ofNat cs.length)), .val .null, .val (.ref r_4)] []))
    refine own_aloadN X_11 hx (hb hby d7_51) (q := 52) rfl rfl rfl ?_
    refine own_aload X_11 hx (hb hby d7_52) (q := 54) rfl rfl rfl ?_
    have K_14 : Keep h0 h_11 [a1] := Keep.wr (ws := [a1]) (own_keep_mono K_9 (by simp)) W_11 (Or.inl (List.mem_of_getElem? (i := 0) rfl))
    obtain ⟨T_15, h_15, X_15, e_15, W_15, st_15⟩ := putF X_11 hx hZ hown (host := "") (Or.inl (own_w hw 68 rfl)) Via.refl e_11 F_12 (E1.keep K_14) (Or.inr ⟨(own_w hw 69 rfl), rfl, hnm⟩) (own_w hw 23 rfl) (ty := (.array .byte)) (by decide) rfl rfl (g := (mkF m 54 #[.val (.ref a1), .val (.ref a2), .val (.int (0 : Int32)), .val (.int (Int32.ofNat cs.length)), .val .null, .val (.ref r_4)] [(.ref r_4), (.ref a1)])) rfl rfl (hb hby d7_54)
    have F_16 : Fld Z h_15 a1 "java/lang/String" "coder" "B" (.int (0 : Int32)) := F_13.other W_15 (Or.inr (slot_ne (Or.inr (own_w hw 67 rfl)) (Or.inr (own_w hw 69 rfl)) (by decide) (t := .byte) (t' := (.array .byte)) (by decide) (by decide)))
    have F_17 : Fld Z h_15 a1 "java/lang/String" "value" "[B" (.ref r_4) := F_12.same W_15
    have N_15 := Fr.snoc X_15 N_11 g1
    refine own_via st_15 ?_
    show own_Go p e below _ (T_15.setTop (mkF m 57 #[.val (.ref a1), .val (.ref a2), .val (.int (0 : Int32)), .val (.int (Int32.ofNat cs.length)), .val .null, .val (.ref r_4)] []))
    have K_18 : Keep h0 h_15 [a1] := Keep.wr (ws := [a1]) K_14 W_15 (Or.inl (List.mem_of_getElem? (i := 0) rfl))
    have K_19 : Keep T_3.heap h_11 [a1] := Keep.wr (ws := [a1]) (own_keep_mono (Keep.refl T_3.heap []) (by simp)) W_11 (Or.inl (List.mem_of_getElem? (i := 0) rfl))
    have K_20 : Keep T_3.heap h_15 [a1] := Keep.wr (ws := [a1]) K_19 W_15 (Or.inl (List.mem_of_getElem? (i := 0) rfl))
    exact own_ret0 X_15 Bd.notSynchronized hx Bd.returns (hb hby d7_57) (by decide) (by decide) (by rw [e_15]; exact ⟨rfl, N_15, K_18, ⟨(E1.keep K_18), ⟨r_4, u_5, _, _, _, F_16, F_17, (q_3_2.keep K_20 (ninS (Ne.symm (Nat.ne_of_lt (Nat.lt_of_lt_of_le E1.lt q_3_0))) nin0)), (Or.inl ⟨rfl, rfl, rfl, hal⟩)⟩, hbd, hl⟩⟩)
  · have K_21 : Keep h0 T_3.heap [] := Keep.trans (ws := []) (Keep.refl h0 []) K_3q all0
    obtain ⟨_, _, ⟨T_22, L_22, k_22, n_22⟩, -, X_22, ⟨Lc_22, hQ_22, l_22, y_22, z_22⟩, st_22⟩ := Jvm.LawKit.callS X_3 hx (y := (⟨"java/lang/StringUTF16", "coderFromArrayLen", "([BI)B"⟩ : MethodName)) hown (mvT hZ (own_w hw 63 rfl)) (mvT hZ (own_w hw 64 rfl)) (mvT hZ (own_w hw 38 rfl)) (mvT hZ (own_w hw 65 rfl)) (by decide) (backOf (W := 1) (rmcdr1 l Z a0 hw [] r_4 u_5 cs.length (wideBytes cs) T_3.heap n0 (Nat.le_trans Z0 K_21.1) q_3_2 hl hz0) hZ (own_w hw 65 rfl) (own_w hw 38 rfl) (by decide) (by decide)) (g := (mkF m 45 #[.val (.ref a1), .val (.ref a2), .val (.int (0 : Int32)), .val (.int (Int32.ofNat cs.length)), .val .null, .val (.ref r_4)] [(.int (Int32.ofNat cs.length)), (.ref r_4), (.ref a1)])) rfl (by rw [hml]; rfl) (argsL := [(.ref r_4), (.int (Int32.ofNat cs.length))]) (rest := [(.ref a1)]) (lenOf pd_10 rfl) rfl (by show 2 * 0 + _ ≤ _; exact Nat.le_of_eq rfl) (hb hby d7_45) (fun _ _ => ⟨rfl, rfl, (by decide : 2 + 0 ≤ _), (by decide : 309 + 0 ≤ _)⟩)
    dsimp only [Pt.U, Pt.locs, Pt.cells, Pt.slots] at X_22 l_22 y_22 z_22 st_22 hQ_22
    subst l_22 y_22 z_22
    obtain ⟨rfl, Nq_22, e_22⟩ := hQ_22
    have N_22 := Fr.app N_3 Nq_22
    refine own_via st_22 ?_
    show own_Go p e below _ (T_22.setTop (mkF m 48 #[.val (.ref a1), .val (.ref a2), .val (.int (0 : Int32)), .val (.int (Int32.ofNat cs.length)), .val .null, .val (.ref r_4)] [(.int (1 : Int32)), (.ref a1)]))
    obtain ⟨T_23, h_23, X_23, e_23, W_23, st_23⟩ := putFN X_22 hx hZ hown (own_w hw 66 rfl) Via.refl e_22 (F2.keep K_21 nin0) (E1.keep K_21) (Or.inr ⟨(own_w hw 67 rfl), rfl, hnm⟩) (own_w hw 23 rfl) (ty := .byte) (v' := (.int (1 : Int32))) (by decide) rfl rfl (g := (mkF m 48 #[.val (.ref a1), .val (.ref a2), .val (.int (0 : Int32)), .val (.int (Int32.ofNat cs.length)), .val .null, .val (.ref r_4)] [(.int (1 : Int32)), (.ref a1)])) rfl rfl (hb hby d7_48)
    have F_24 : Fld Z h_23 a1 "java/lang/String" "value" "[B" .null := (F1.keep K_21 nin0).other W_23 (Or.inr (slot_ne (Or.inr (own_w hw 69 rfl)) (Or.inr (own_w hw 67 rfl)) (by decide) (t := (.array .byte)) (t' := .byte) (by decide) (by decide)))
    have F_25 : Fld Z h_23 a1 "java/lang/String" "coder" "B" (.int (1 : Int32)) := (F2.keep K_21 nin0).same W_23
    have N_23 := Fr.snoc X_23 N_22 g1
    refine own_via st_23 ?_
    show own_Go p e below _ (T_23.setTop (mkF m 51 #[.val (.ref a1), .val (.ref a2), .val (.int (0 : Int32)), .val (.int (Int32.ofNat cs.length)), .val .null, .val (.ref r_4)] []))
    refine own_aloadN X_23 hx (hb hby d7_51) (q := 52) rfl rfl rfl ?_
    refine own_aload X_23 hx (hb hby d7_52) (q := 54) rfl rfl rfl ?_
    have K_26 : Keep h0 h_23 [a1] := Keep.wr (ws := [a1]) (own_keep_mono K_21 (by simp)) W_23 (Or.inl (List.mem_of_getElem? (i := 0) rfl))
    obtain ⟨T_27, h_27, X_27, e_27, W_27, st_27⟩ := putF X_23 hx hZ hown (host := "") (Or.inl (own_w hw 68 rfl)) Via.refl e_23 F_24 (E1.keep K_26) (Or.inr ⟨(own_w hw 69 rfl), rfl, hnm⟩) (own_w hw 23 rfl) (ty := (.array .byte)) (by decide) rfl rfl (g := (mkF m 54 #[.val (.ref a1), .val (.ref a2), .val (.int (0 : Int32)), .val (.int (Int32.ofNat cs.length)), .val .null, .val (.ref r_4)] [(.ref r_4), (.ref a1)])) rfl rfl (hb hby d7_54)
    have F_28 : Fld Z h_27 a1 "java/lang/String" "coder" "B" (.int (1 : Int32)) := F_25.other W_27 (Or.inr (slot_ne (Or.inr (own_w hw 67 rfl)) (Or.inr (own_w hw 69 rfl)) (by decide) (t := .byte) (t' := (.array .byte)) (by decide) (by decide)))
    have F_29 : Fld Z h_27 a1 "java/lang/String" "value" "[B" (.ref r_4) := F_24.same W_27
    have N_27 := Fr.snoc X_27 N_23 g1
    refine own_via st_27 ?_
    show own_Go p e below _ (T_27.setTop (mkF m 57 #[.val (.ref a1), .val (.ref a2), .val (.int (0 : Int32)), .val (.int (Int32.ofNat cs.length)), .val .null, .val (.ref r_4)] []))
    have K_30 : Keep h0 h_27 [a1] := Keep.wr (ws := [a1]) K_26 W_27 (Or.inl (List.mem_of_getElem? (i := 0) rfl))
    have K_31 : Keep T_3.heap h_23 [a1] := Keep.wr (ws := [a1]) (own_keep_mono (Keep.refl T_3.heap []) (by simp)) W_23 (Or.inl (List.mem_of_getElem? (i := 0) rfl))
    have K_32 : Keep T_3.heap h_27 [a1] := Keep.wr (ws := [a1]) K_31 W_27 (Or.inl (List.mem_of_getElem? (i := 0) rfl))
    exact own_ret0 X_27 Bd.notSynchronized hx Bd.returns (hb hby d7_57) (by decide) (by decide) (by rw [e_27]; exact ⟨rfl, N_27, K_30, ⟨(E1.keep K_30), ⟨r_4, u_5, _, _, _, F_28, F_29, (q_3_2.keep K_32 (ninS (Ne.symm (Nat.ne_of_lt (Nat.lt_of_lt_of_le E1.lt q_3_0))) nin0)), (Or.inr ⟨rfl, rfl, rfl, hal⟩)⟩, hbd, hl⟩⟩)
theorem d6_0 : decode jdk_42_method_3_code 0 = .ok (.aload_n 0, 1) := by decide +kernel
theorem d6_1 : decode jdk_42_method_3_code 1 = .ok (.aload_n 1, 1) := by decide +kernel
theorem d6_2 : decode jdk_42_method_3_code 2 = .ok (.iconst 0, 1) := by decide +kernel
theorem d6_3 : decode jdk_42_method_3_code 3 = .ok (.aload_n 1, 1) := by decide +kernel
theorem d6_4 : decode jdk_42_method_3_code 4 = .ok (.arraylength, 1) := by decide +kernel
theorem d6_5 : decode jdk_42_method_3_code 5 = .ok (.aconst_null, 1) := by decide +kernel
theorem d6_6 : decode jdk_42_method_3_code 6 = .ok (.invokespecial 27, 3) := by decide +kernel
theorem d6_9 : decode jdk_42_method_3_code 9 = .ok (.return_, 1) := by decide +kernel
theorem pd_11 : parseMethodDescriptor "([CIILjava/lang/Void;)V" = some ⟨[(.array .char), .int, .int, (.object "java/lang/Void")], none⟩ := by decide +kernel
theorem ef_strC (m : MethodId) (a1 : Addr) (a2 : Addr) : entryFrame m #[(.ref a1), (.ref a2)] 2 = mkF m 0 #[.val (.ref a1), .val (.ref a2)] [] := by first | (simp [entryFrame, mkF, argsToLocals, Value.category]; done) | rfl
def QstrC (Z : State) (a1 : Addr) (a2 : Addr) (k2 : ClassId) (cs : List Int32) (cz : Int32) (h0 : Heap) (n0 : Nat) (v : Option Value) (h : Heap) (L : List Loc) : Prop := v = none ∧ Fr n0 L ∧ Keep h0 h [a1] ∧ (own_S Z h a1 cs)
theorem rmstrC (l : Launch) (Z : State) (a0 : Array Value) (hw : ∀ d ∈ tables_1, d.before a0 Z = true) (ws : List Jvm.Cond) (a1 : Addr) (a2 : Addr) (k2 : ClassId) (cs : List Int32) (cz : Int32) (h0 : Heap) (n0 : Nat) (Z0 : n0 ≤ h0.size) (O0 : Old Z n0 h0) (Sad : Sta Z Z.heap "java/lang/StringUTF16" "$assertionsDisabled" "Z" (.int (1 : Int32))) (Shi : Sta Z Z.heap "java/lang/StringUTF16" "HI_BYTE_SHIFT" "I" (.int (0 : Int32))) (Slo : Sta Z Z.heap "java/lang/StringUTF16" "LO_BYTE_SHIFT" "I" (.int (8 : Int32))) (Scs : Sta Z Z.heap "java/lang/String" "COMPACT_STRINGS" "Z" (.int cz)) (hcs : ¬ (cz = (0 : Int32))) (E1 : Exa Z h0 a1 "java/lang/String") (F1 : Fld Z h0 a1 "java/lang/String" "value" "[B" .null) (F2 : Fld Z h0 a1 "java/lang/String" "coder" "B" (.int (0 : Int32))) (g1 : n0 ≤ a1) (A2 : Arv Z h0 a2 k2 .char (Int32.ofNat cs.length) (cs.map Value.int) (.int (0 : Int32))) (hl : cs.length ≤ 103) (hbd : ∀ c ∈ cs, ¬ c < 0 ∧ ¬ (65535 : Int32) < c) (hz0 : 0 < cs.length) :
    MetFree l (⟨"java/lang/String", "<init>", "([C)V"⟩ : MethodName) (head1 (Jvm.Cond.code (⟨"java/lang/String", "<init>", "([C)V"⟩ : MethodName) jdk_42_method_3_code 2 none :: ws) ({ frames := 5, cells := 2, slots := 309, locals := 84 } : Room)) (fun a U => a = #[(.ref a1), (.ref a2)] ∧ Z.Warmed39 U.vm ∧ U.heap = h0) (fun _ _ _ _ _ => True) (fun _ U o U' => ∃ v L, o = .returned v ∧ QstrC Z a1 a2 k2 cs cz h0 n0 v U'.heap L ∧ FrameEnd U o U' L ({ frames := 5, cells := 2, slots := 309, locals := 84 } : Room).cells ({ frames := 5, cells := 2, slots := 309, locals := 84 } : Room).slots) := by
  refine MetFree.of_bodySF (plainFor_of_name pn_java_lang_String) hisR ?_
  intro p e s m args below meth c s₁ Bd hml0 hP hK
  obtain ⟨rfl, hZ, hH0⟩ := hP
  have hx := Bd.exec
  have hby := Bd.bytes
  have hml : c.maxLocals = 2 := hml0
  have hown : s.vm.findClass "java/lang/String" = some m.cls := findClass_of_methodNamed Bd.named
  have hnm := (name_of_methodNamed Bd.named Bd.method).1
  have X0 : Stand p l e ({ frames := 5, cells := 2, slots := 309, locals := 84 } : Room) s m #[(.ref a1), (.ref a2)] below meth c s₁ [] 0 0 := Stand.of_body Bd
  have e0 : s₁.heap = h0 := by rw [← hH0, Bd.state]; rfl
  have N0 := Fr.nil n0
  refine own_cast (ef_strC m a1 a2) ?_
  show own_Go p e below (fun o U' => ∃ v L, o = .returned v ∧ QstrC Z a1 a2 k2 cs cz h0 n0 v U'.heap L ∧ FrameEnd s o U' L ({ frames := 5, cells := 2, slots := 309, locals := 84 } : Room).cells ({ frames := 5, cells := 2, slots := 309, locals := 84 } : Room).slots) (s₁.setTop (mkF m 0 #[.val (.ref a1), .val (.ref a2)] []))
  refine own_aloadN X0 hx (hb hby d6_0) (q := 1) rfl rfl rfl ?_
  refine own_aloadN X0 hx (hb hby d6_1) (q := 2) rfl rfl rfl ?_
  refine own_iconst X0 hx (hb hby d6_2) (q := 3) (z := (0 : Int32)) rfl rfl ?_
  refine own_aloadN X0 hx (hb hby d6_3) (q := 4) rfl rfl rfl ?_
  obtain ⟨cl_1, Ar_1, q_1, S_1, M_1, H_1, G_1⟩ := (id A2)
  refine own_via (X0.arraylength hx (by rw [e0]; exact Ar_1.1) (State.isArrayOf_alike hZ.alike Ar_1.2.1) (g := (mkF m 4 #[.val (.ref a1), .val (.ref a2)] [(.ref a2), (.int (0 : Int32)), (.ref a2), (.ref a1)])) rfl rfl (hb hby d6_4)) ?_
  rw [len_of S_1 M_1]
  show own_Go p e below _ (s₁.setTop (mkF m 5 #[.val (.ref a1), .val (.ref a2)] [(.int (Int32.ofNat cs.length)), (.int (0 : Int32)), (.ref a2), (.ref a1)]))
  refine own_aconst X0 hx (hb hby d6_5) (q := 6) rfl ?_
  obtain ⟨_, _, ⟨T_2, L_2, k_2, n_2⟩, -, X_2, ⟨Lc_2, hQ_2, l_2, y_2, z_2⟩, st_2⟩ := X0.specialBack hx (y := (⟨"java/lang/String", "<init>", "([CIILjava/lang/Void;)V"⟩ : MethodName)) rfl hown (mvT hZ (own_w hw 28 rfl)) (mvT hZ (own_w hw 29 rfl)) (mvT hZ (own_w hw 31 rfl)) (by decide) (backOf (W := 0) (rmstrV l Z a0 hw [] a1 a2 k2 cs cz h0 n0 Z0 O0 Sad Shi Slo Scs hcs E1 F1 F2 g1 A2 hl hbd hz0) hZ (own_w hw 31 rfl) (own_w hw 24 rfl) (by decide) (by decide)) (g := (mkF m 6 #[.val (.ref a1), .val (.ref a2)] [.null, (.int (Int32.ofNat cs.length)), (.int (0 : Int32)), (.ref a2), (.ref a1)])) rfl (by rw [hml]; rfl) (Steps.refl _) (a := a1) (argsL := [(.ref a2), (.int (0 : Int32)), (.int (Int32.ofNat cs.length)), .null]) (rest := []) (lenOf pd_11 rfl) rfl (by show 2 * 0 + _ ≤ _; exact Nat.le_of_eq rfl) (hb hby d6_6) (fun _ _ => ⟨rfl, e0, (by decide : 0 + 2 ≤ _), (by decide : 0 + 309 ≤ _)⟩)
  dsimp only [Pt.U, Pt.locs, Pt.cells, Pt.slots] at X_2 l_2 y_2 z_2 st_2 hQ_2
  subst l_2 y_2 z_2
  obtain ⟨rfl, Nq_2, K_2q, q_2_0⟩ := hQ_2
  have N_2 := Fr.app N0 Nq_2
  refine own_via (fun _ k => st_2.trans k) ?_
  show own_Go p e below _ (T_2.setTop (mkF m 9 #[.val (.ref a1), .val (.ref a2)] []))
  have K_3 : Keep h0 T_2.heap [a1] := Keep.trans (ws := [a1]) (own_keep_mono (Keep.refl h0 []) (by simp)) K_2q (allS (Or.inl (List.mem_of_getElem? (i := 0) rfl)) all0)
  exact own_ret0 X_2 Bd.notSynchronized hx Bd.returns (hb hby d6_9) (by decide) (by decide) ⟨rfl, N_2, K_3, q_2_0⟩
theorem own_255 {z : Int32} (h : ¬ z < 0 ∧ ¬ (255 : Int32) < z) : ∃ k : Fin 256, z = Int32.ofNat k.val := by
  obtain ⟨h1, h2⟩ := h
  rw [Int32.lt_iff_toInt_lt] at h1 h2
  have e1 : (0 : Int32).toInt = 0 := rfl
  have e2 : (255 : Int32).toInt = 255 := rfl
  refine ⟨⟨z.toInt.toNat, by omega⟩, ?_⟩
  apply Int32.toInt_inj.mp
  rw [Int32.toInt_ofNat_small (by show z.toInt.toNat < _; omega)]
  show _ = ((z.toInt.toNat : Nat) : Int)
  omega
theorem own_l8 {z : Int32} (h : ¬ z < 0 ∧ ¬ (255 : Int32) < z) : ((lo8 z &&& (255 : Int32)).toUInt32.toUInt16.toUInt32.toInt32) = z := by
  obtain ⟨k, rfl⟩ := own_255 h
  exact (by decide +kernel : ∀ k : Fin 256, ((lo8 (Int32.ofNat k.val) &&& (255 : Int32)).toUInt32.toUInt16.toUInt32.toInt32) = Int32.ofNat k.val) k

theorem d19_0 : decode jdk_42_method_152_code 0 = .ok (.getstatic 38, 3) := by decide +kernel
theorem d19_3 : decode jdk_42_method_152_code 3 = .ok (.ifCond .eq 10, 3) := by decide +kernel
theorem d19_6 : decode jdk_42_method_152_code 6 = .ok (.aload_n 0, 1) := by decide +kernel
theorem d19_7 : decode jdk_42_method_152_code 7 = .ok (.getfield 15, 3) := by decide +kernel
theorem d19_10 : decode jdk_42_method_152_code 10 = .ok (.goto 4, 3) := by decide +kernel
theorem d19_14 : decode jdk_42_method_152_code 14 = .ok (.ireturn, 1) := by decide +kernel
theorem ef_coder0 (m : MethodId) (a1 : Addr) : entryFrame m #[(.ref a1)] 1 = mkF m 0 #[.val (.ref a1)] [] := by first | (simp [entryFrame, mkF, argsToLocals, Value.category]; done) | rfl
def Qcoder0 (Z : State) (a1 : Addr) (cz : Int32) (h0 : Heap) (n0 : Nat) (v : Option Value) (h : Heap) (L : List Loc) : Prop := v = some (.int (0 : Int32)) ∧ Fr n0 L ∧ h = h0
theorem rmcoder0 (l : Launch) (Z : State) (a0 : Array Value) (hw : ∀ d ∈ tables_1, d.before a0 Z = true) (ws : List Jvm.Cond) (a1 : Addr) (cz : Int32) (h0 : Heap) (n0 : Nat) (Z0 : n0 ≤ h0.size) (O0 : Old Z n0 h0) (Scs : Sta Z Z.heap "java/lang/String" "COMPACT_STRINGS" "Z" (.int cz)) (hcs : ¬ (cz = (0 : Int32))) (F1 : Fld Z h0 a1 "java/lang/String" "coder" "B" (.int (0 : Int32))) :
    MetFree l (⟨"java/lang/String", "coder", "()B"⟩ : MethodName) (head1 (Jvm.Cond.code (⟨"java/lang/String", "coder", "()B"⟩ : MethodName) jdk_42_method_152_code 1 (some .byte) :: ws) ({ frames := 0, cells := 0, slots := 0, locals := 0 } : Room)) (fun a U => a = #[(.ref a1)] ∧ Z.Warmed39 U.vm ∧ U.heap = h0) (fun _ _ _ _ _ => True) (fun _ U o U' => ∃ v L, o = .returned v ∧ Qcoder0 Z a1 cz h0 n0 v U'.heap L ∧ FrameEnd U o U' L ({ frames := 0, cells := 0, slots := 0, locals := 0 } : Room).cells ({ frames := 0, cells := 0, slots := 0, locals := 0 } : Room).slots) := by
  refine MetFree.of_bodySF (plainFor_of_name pn_java_lang_String) hisR ?_
  intro p e s m args below meth c s₁ Bd hml0 hP hK
  obtain ⟨rfl, hZ, hH0⟩ := hP
  have hx := Bd.exec
  have hby := Bd.bytes
  have hml : c.maxLocals = 1 := hml0
  have hown : s.vm.findClass "java/lang/String" = some m.cls := findClass_of_methodNamed Bd.named
  have hnm := (name_of_methodNamed Bd.named Bd.method).1
  have X0 : Stand p l e ({ frames := 0, cells := 0, slots := 0, locals := 0 } : Room) s m #[(.ref a1)] below meth c s₁ [] 0 0 := Stand.of_body Bd
  have e0 : s₁.heap = h0 := by rw [← hH0, Bd.state]; rfl
  have N0 := Fr.nil n0
  refine own_cast (ef_coder0 m a1) ?_
  show own_Go p e below (fun o U' => ∃ v L, o = .returned v ∧ Qcoder0 Z a1 cz h0 n0 v U'.heap L ∧ FrameEnd s o U' L ({ frames := 0, cells := 0, slots := 0, locals := 0 } : Room).cells ({ frames := 0, cells := 0, slots := 0, locals := 0 } : Room).slots) (s₁.setTop (mkF m 0 #[.val (.ref a1)] []))
  obtain ⟨T_1, X_1, e_1, st_1⟩ := getS2 X0 hx hZ hown (host := "") (Or.inl (own_w hw 35 rfl)) Via.refl e0 (Scs.ext O0.2) (g := (mkF m 0 #[.val (.ref a1)] [])) rfl (hb hby d19_0)
  refine own_via st_1 ?_
  show own_Go p e below _ (T_1.setTop (mkF m 3 #[.val (.ref a1)] [(.int cz)]))
  refine own_via (fun _ => XS.ifNo X_1.here hx rfl (hb hby d19_3) rfl ((if0 _ _).trans (feq (hcs : ¬ (cz = (0 : Int32)))).1)) ?_
  show own_Go p e below _ (T_1.setTop (mkF m 6 #[.val (.ref a1)] []))
  refine own_aloadN X_1 hx (hb hby d19_6) (q := 7) rfl rfl rfl ?_
  obtain ⟨T_2, X_2, e_2, st_2⟩ := getF X_1 hx hZ hown (host := "") (Or.inl (own_w hw 66 rfl)) Via.refl e_1 F1 (g := (mkF m 7 #[.val (.ref a1)] [(.ref a1)])) rfl rfl (hb hby d19_7)
  refine own_via st_2 ?_
  show own_Go p e below _ (T_2.setTop (mkF m 10 #[.val (.ref a1)] [(.int (0 : Int32))]))
  refine own_via (fun _ => XS.goto X_2.here hx rfl (pc0 := 10) (pc' := 14) rfl (hb hby d19_10) (by decide) (by decide)) ?_
  show own_Go p e below _ (T_2.setTop (mkF m 14 #[.val (.ref a1)] [(.int (0 : Int32))]))
  exact own_retv X_2 Bd.notSynchronized hx Bd.returns rfl (Or.inl ⟨rfl, (by simp), _, rfl⟩) (hb hby d19_14) (by decide) (by decide) (by rw [e_2]; exact ⟨rfl, N0, rfl⟩)
theorem d23_0 : decode jdk_42_method_154_code 0 = .ok (.getstatic 38, 3) := by decide +kernel
theorem d23_3 : decode jdk_42_method_154_code 3 = .ok (.ifCond .eq 14, 3) := by decide +kernel
theorem d23_6 : decode jdk_42_method_154_code 6 = .ok (.aload_n 0, 1) := by decide +kernel
theorem d23_7 : decode jdk_42_method_154_code 7 = .ok (.getfield 15, 3) := by decide +kernel
theorem d23_10 : decode jdk_42_method_154_code 10 = .ok (.ifCond .ne 7, 3) := by decide +kernel
theorem d23_13 : decode jdk_42_method_154_code 13 = .ok (.iconst 1, 1) := by decide +kernel
theorem d23_14 : decode jdk_42_method_154_code 14 = .ok (.goto 4, 3) := by decide +kernel
theorem d23_17 : decode jdk_42_method_154_code 17 = .ok (.iconst 0, 1) := by decide +kernel
theorem d23_18 : decode jdk_42_method_154_code 18 = .ok (.ireturn, 1) := by decide +kernel
theorem ef_latin0 (m : MethodId) (a1 : Addr) : entryFrame m #[(.ref a1)] 1 = mkF m 0 #[.val (.ref a1)] [] := by first | (simp [entryFrame, mkF, argsToLocals, Value.category]; done) | rfl
def Qlatin0 (Z : State) (a1 : Addr) (cz : Int32) (h0 : Heap) (n0 : Nat) (v : Option Value) (h : Heap) (L : List Loc) : Prop := v = some (.int (1 : Int32)) ∧ Fr n0 L ∧ h = h0
theorem rmlatin0 (l : Launch) (Z : State) (a0 : Array Value) (hw : ∀ d ∈ tables_1, d.before a0 Z = true) (ws : List Jvm.Cond) (a1 : Addr) (cz : Int32) (h0 : Heap) (n0 : Nat) (Z0 : n0 ≤ h0.size) (O0 : Old Z n0 h0) (Scs : Sta Z Z.heap "java/lang/String" "COMPACT_STRINGS" "Z" (.int cz)) (hcs : ¬ (cz = (0 : Int32))) (F1 : Fld Z h0 a1 "java/lang/String" "coder" "B" (.int (0 : Int32))) :
    MetFree l (⟨"java/lang/String", "isLatin1", "()Z"⟩ : MethodName) (head1 (Jvm.Cond.code (⟨"java/lang/String", "isLatin1", "()Z"⟩ : MethodName) jdk_42_method_154_code 1 (some .boolean) :: ws) ({ frames := 0, cells := 0, slots := 0, locals := 0 } : Room)) (fun a U => a = #[(.ref a1)] ∧ Z.Warmed39 U.vm ∧ U.heap = h0) (fun _ _ _ _ _ => True) (fun _ U o U' => ∃ v L, o = .returned v ∧ Qlatin0 Z a1 cz h0 n0 v U'.heap L ∧ FrameEnd U o U' L ({ frames := 0, cells := 0, slots := 0, locals := 0 } : Room).cells ({ frames := 0, cells := 0, slots := 0, locals := 0 } : Room).slots) := by
  refine MetFree.of_bodySF (plainFor_of_name pn_java_lang_String) hisR ?_
  intro p e s m args below meth c s₁ Bd hml0 hP hK
  obtain ⟨rfl, hZ, hH0⟩ := hP
  have hx := Bd.exec
  have hby := Bd.bytes
  have hml : c.maxLocals = 1 := hml0
  have hown : s.vm.findClass "java/lang/String" = some m.cls := findClass_of_methodNamed Bd.named
  have hnm := (name_of_methodNamed Bd.named Bd.method).1
  have X0 : Stand p l e ({ frames := 0, cells := 0, slots := 0, locals := 0 } : Room) s m #[(.ref a1)] below meth c s₁ [] 0 0 := Stand.of_body Bd
  have e0 : s₁.heap = h0 := by rw [← hH0, Bd.state]; rfl
  have N0 := Fr.nil n0
  refine own_cast (ef_latin0 m a1) ?_
  show own_Go p e below (fun o U' => ∃ v L, o = .returned v ∧ Qlatin0 Z a1 cz h0 n0 v U'.heap L ∧ FrameEnd s o U' L ({ frames := 0, cells := 0, slots := 0, locals := 0 } : Room).cells ({ frames := 0, cells := 0, slots := 0, locals := 0 } : Room).slots) (s₁.setTop (mkF m 0 #[.val (.ref a1)] []))
  obtain ⟨T_1, X_1, e_1, st_1⟩ := getS2 X0 hx hZ hown (host := "") (Or.inl (own_w hw 35 rfl)) Via.refl e0 (Scs.ext O0.2) (g := (mkF m 0 #[.val (.ref a1)] [])) rfl (hb hby d23_0)
  refine own_via st_1 ?_
  show own_Go p e below _ (T_1.setTop (mkF m 3 #[.val (.ref a1)] [(.int cz)]))
  refine own_via (fun _ => XS.ifNo X_1.here hx rfl (hb hby d23_3) rfl ((if0 _ _).trans (feq (hcs : ¬ (cz = (0 : Int32)))).1)) ?_
  show own_Go p e below _ (T_1.setTop (mkF m 6 #[.val (.ref a1)] []))
  refine own_aloadN X_1 hx (hb hby d23_6) (q := 7) rfl rfl rfl ?_
  obtain ⟨T_2, X_2, e_2, st_2⟩ := getF X_1 hx hZ hown (host := "") (Or.inl (own_w hw 66 rfl)) Via.refl e_1 F1 (g := (mkF m 7 #[.val (.ref a1)] [(.ref a1)])) rfl rfl (hb hby d23_7)
  refine own_via st_2 ?_
  show own_Go p e below _ (T_2.setTop (mkF m 10 #[.val (.ref a1)] [(.int (0 : Int32))]))
  refine own_via (fun _ => XS.ifNo X_2.here hx rfl (hb hby d23_10) rfl ((if0 _ _).trans (teq ((by decide) : (0 : Int32) = (0 : Int32))).2)) ?_
  show own_Go p e below _ (T_2.setTop (mkF m 13 #[.val (.ref a1)] []))
  refine own_iconst X_2 hx (hb hby d23_13) (q := 14) (z := (1 : Int32)) rfl rfl ?_
  refine own_via (fun _ => XS.goto X_2.here hx rfl (pc0 := 14) (pc' := 18) rfl (hb hby d23_14) (by decide) (by decide)) ?_
  show own_Go p e below _ (T_2.setTop (mkF m 18 #[.val (.ref a1)] [(.int (1 : Int32))]))
  exact own_retv X_2 Bd.notSynchronized hx Bd.returns rfl (Or.inl ⟨rfl, (by simp), _, rfl⟩) (hb hby d23_18) (by decide) (by decide) (by rw [e_2]; exact ⟨rfl, N0, rfl⟩)
theorem ef_coder1 (m : MethodId) (a1 : Addr) : entryFrame m #[(.ref a1)] 1 = mkF m 0 #[.val (.ref a1)] [] := by first | (simp [entryFrame, mkF, argsToLocals, Value.category]; done) | rfl
def Qcoder1 (Z : State) (a1 : Addr) (cz : Int32) (h0 : Heap) (n0 : Nat) (v : Option Value) (h : Heap) (L : List Loc) : Prop := v = some (.int (1 : Int32)) ∧ Fr n0 L ∧ h = h0
theorem rmcoder1 (l : Launch) (Z : State) (a0 : Array Value) (hw : ∀ d ∈ tables_1, d.before a0 Z = true) (ws : List Jvm.Cond) (a1 : Addr) (cz : Int32) (h0 : Heap) (n0 : Nat) (Z0 : n0 ≤ h0.size) (O0 : Old Z n0 h0) (Scs : Sta Z Z.heap "java/lang/String" "COMPACT_STRINGS" "Z" (.int cz)) (hcs : ¬ (cz = (0 : Int32))) (F1 : Fld Z h0 a1 "java/lang/String" "coder" "B" (.int (1 : Int32))) :
    MetFree l (⟨"java/lang/String", "coder", "()B"⟩ : MethodName) (head1 (Jvm.Cond.code (⟨"java/lang/String", "coder", "()B"⟩ : MethodName) jdk_42_method_152_code 1 (some .byte) :: ws) ({ frames := 0, cells := 0, slots := 0, locals := 0 } : Room)) (fun a U => a = #[(.ref a1)] ∧ Z.Warmed39 U.vm ∧ U.heap = h0) (fun _ _ _ _ _ => True) (fun _ U o U' => ∃ v L, o = .returned v ∧ Qcoder1 Z a1 cz h0 n0 v U'.heap L ∧ FrameEnd U o U' L ({ frames := 0, cells := 0, slots := 0, locals := 0 } : Room).cells ({ frames := 0, cells := 0, slots := 0, locals := 0 } : Room).slots) := by
  refine MetFree.of_bodySF (plainFor_of_name pn_java_lang_String) hisR ?_
  intro p e s m args below meth c s₁ Bd hml0 hP hK
  obtain ⟨rfl, hZ, hH0⟩ := hP
  have hx := Bd.exec
  have hby := Bd.bytes
  have hml : c.maxLocals = 1 := hml0
  have hown : s.vm.findClass "java/lang/String" = some m.cls := findClass_of_methodNamed Bd.named
  have hnm := (name_of_methodNamed Bd.named Bd.method).1
  have X0 : Stand p l e ({ frames := 0, cells := 0, slots := 0, locals := 0 } : Room) s m #[(.ref a1)] below meth c s₁ [] 0 0 := Stand.of_body Bd
  have e0 : s₁.heap = h0 := by rw [← hH0, Bd.state]; rfl
  have N0 := Fr.nil n0
  refine own_cast (ef_coder1 m a1) ?_
  show own_Go p e below (fun o U' => ∃ v L, o = .returned v ∧ Qcoder1 Z a1 cz h0 n0 v U'.heap L ∧ FrameEnd s o U' L ({ frames := 0, cells := 0, slots := 0, locals := 0 } : Room).cells ({ frames := 0, cells := 0, slots := 0, locals := 0 } : Room).slots) (s₁.setTop (mkF m 0 #[.val (.ref a1)] []))
  obtain ⟨T_1, X_1, e_1, st_1⟩ := getS2 X0 hx hZ hown (host := "") (Or.inl (own_w hw 35 rfl)) Via.refl e0 (Scs.ext O0.2) (g := (mkF m 0 #[.val (.ref a1)] [])) rfl (hb hby d19_0)
  refine own_via st_1 ?_
  show own_Go p e below _ (T_1.setTop (mkF m 3 #[.val (.ref a1)] [(.int cz)]))
  refine own_via (fun _ => XS.ifNo X_1.here hx rfl (hb hby d19_3) rfl ((if0 _ _).trans (feq (hcs : ¬ (cz = (0 : Int32)))).1)) ?_
  show own_Go p e below _ (T_1.setTop (mkF m 6 #[.val (.ref a1)] []))
  refine own_aloadN X_1 hx (hb hby d19_6) (q := 7) rfl rfl rfl ?_
  obtain ⟨T_2, X_2, e_2, st_2⟩ := getF X_1 hx hZ hown (host := "") (Or.inl (own_w hw 66 rfl)) Via.refl e_1 F1 (g := (mkF m 7 #[.val (.ref a1)] [(.ref a1)])) rfl rfl (hb hby d19_7)
  refine own_via st_2 ?_
  show own_Go p e below _ (T_2.setTop (mkF m 10 #[.val (.ref a1)] [(.int (1 : Int32))]))
  refine own_via (fun _ => XS.goto X_2.here hx rfl (pc0 := 10) (pc' := 14) rfl (hb hby d19_10) (by decide) (by decide)) ?_
  show own_Go p e below _ (T_2.setTop (mkF m 14 #[.val (.ref a1)] [(.int (1 : Int32))]))
  exact own_retv X_2 Bd.notSynchronized hx Bd.returns rfl (Or.inl ⟨rfl, (by simp), _, rfl⟩) (hb hby d19_14) (by decide) (by decide) (by rw [e_2]; exact ⟨rfl, N0, rfl⟩)
theorem ef_latin1 (m : MethodId) (a1 : Addr) : entryFrame m #[(.ref a1)] 1 = mkF m 0 #[.val (.ref a1)] [] := by first | (simp [entryFrame, mkF, argsToLocals, Value.category]; done) | rfl
def Qlatin1 (Z : State) (a1 : Addr) (cz : Int32) (h0 : Heap) (n0 : Nat) (v : Option Value) (h : Heap) (L : List Loc) : Prop := v = some (.int (0 : Int32)) ∧ Fr n0 L ∧ h = h0
theorem rmlatin1 (l : Launch) (Z : State) (a0 : Array Value) (hw : ∀ d ∈ tables_1, d.before a0 Z = true) (ws : List Jvm.Cond) (a1 : Addr) (cz : Int32) (h0 : Heap) (n0 : Nat) (Z0 : n0 ≤ h0.size) (O0 : Old Z n0 h0) (Scs : Sta Z Z.heap "java/lang/String" "COMPACT_STRINGS" "Z" (.int cz)) (hcs : ¬ (cz = (0 : Int32))) (F1 : Fld Z h0 a1 "java/lang/String" "coder" "B" (.int (1 : Int32))) :
    MetFree l (⟨"java/lang/String", "isLatin1", "()Z"⟩ : MethodName) (head1 (Jvm.Cond.code (⟨"java/lang/String", "isLatin1", "()Z"⟩ : MethodName) jdk_42_method_154_code 1 (some .boolean) :: ws) ({ frames := 0, cells := 0, slots := 0, locals := 0 } : Room)) (fun a U => a = #[(.ref a1)] ∧ Z.Warmed39 U.vm ∧ U.heap = h0) (fun _ _ _ _ _ => True) (fun _ U o U' => ∃ v L, o = .returned v ∧ Qlatin1 Z a1 cz h0 n0 v U'.heap L ∧ FrameEnd U o U' L ({ frames := 0, cells := 0, slots := 0, locals := 0 } : Room).cells ({ frames := 0, cells := 0, slots := 0, locals := 0 } : Room).slots) := by
  refine MetFree.of_bodySF (plainFor_of_name pn_java_lang_String) hisR ?_
  intro p e s m args below meth c s₁ Bd hml0 hP hK
  obtain ⟨rfl, hZ, hH0⟩ := hP
  have hx := Bd.exec
  have hby := Bd.bytes
  have hml : c.maxLocals = 1 := hml0
  have hown : s.vm.findClass "java/lang/String" = some m.cls := findClass_of_methodNamed Bd.named
  have hnm := (name_of_methodNamed Bd.named Bd.method).1
  have X0 : Stand p l e ({ frames := 0, cells := 0, slots := 0, locals := 0 } : Room) s m #[(.ref a1)] below meth c s₁ [] 0 0 := Stand.of_body Bd
  have e0 : s₁.heap = h0 := by rw [← hH0, Bd.state]; rfl
  have N0 := Fr.nil n0
  refine own_cast (ef_latin1 m a1) ?_
  show own_Go p e below (fun o U' => ∃ v L, o = .returned v ∧ Qlatin1 Z a1 cz h0 n0 v U'.heap L ∧ FrameEnd s o U' L ({ frames := 0, cells := 0, slots := 0, locals := 0 } : Room).cells ({ frames := 0, cells := 0, slots := 0, locals := 0 } : Room).slots) (s₁.setTop (mkF m 0 #[.val (.ref a1)] []))
  obtain ⟨T_1, X_1, e_1, st_1⟩ := getS2 X0 hx hZ hown (host := "") (Or.inl (own_w hw 35 rfl)) Via.refl e0 (Scs.ext O0.2) (g := (mkF m 0 #[.val (.ref a1)] [])) rfl (hb hby d23_0)
  refine own_via st_1 ?_
  show own_Go p e below _ (T_1.setTop (mkF m 3 #[.val (.ref a1)] [(.int cz)]))
  refine own_via (fun _ => XS.ifNo X_1.here hx rfl (hb hby d23_3) rfl ((if0 _ _).trans (feq (hcs : ¬ (cz = (0 : Int32)))).1)) ?_
  show own_Go p e below _ (T_1.setTop (mkF m 6 #[.val (.ref a1)] []))
  refine own_aloadN X_1 hx (hb hby d23_6) (q := 7) rfl rfl rfl ?_
  obtain ⟨T_2, X_2, e_2, st_2⟩ := getF X_1 hx hZ hown (host := "") (Or.inl (own_w hw 66 rfl)) Via.refl e_1 F1 (g := (mkF m 7 #[.val (.ref a1)] [(.ref a1)])) rfl rfl (hb hby d23_7)
  refine own_via st_2 ?_
  show own_Go p e below _ (T_2.setTop (mkF m 10 #[.val (.ref a1)] [(.int (1 : Int32))]))
  refine own_via (fun _ => XS.ifYes X_2.here hx rfl (pc0 := 10) (pc' := 17) rfl (hb hby d23_10) rfl ((if0 _ _).trans (feq ((by decide) : ¬ ((1 : Int32) = (0 : Int32)))).2) (by decide) (by decide)) ?_
  show own_Go p e below _ (T_2.setTop (mkF m 17 #[.val (.ref a1)] []))
  refine own_iconst X_2 hx (hb hby d23_17) (q := 18) (z := (0 : Int32)) rfl rfl ?_
  exact own_retv X_2 Bd.notSynchronized hx Bd.returns rfl (Or.inl ⟨rfl, (by simp), _, rfl⟩) (hb hby d23_18) (by decide) (by decide) (by rw [e_2]; exact ⟨rfl, N0, rfl⟩)
theorem d18_0 : decode jdk_42_method_54_code 0 = .ok (.aload_n 0, 1) := by decide +kernel
theorem d18_1 : decode jdk_42_method_54_code 1 = .ok (.getfield 9, 3) := by decide +kernel
theorem d18_4 : decode jdk_42_method_54_code 4 = .ok (.arraylength, 1) := by decide +kernel
theorem d18_5 : decode jdk_42_method_54_code 5 = .ok (.aload_n 0, 1) := by decide +kernel
theorem d18_6 : decode jdk_42_method_54_code 6 = .ok (.invokevirtual 335, 3) := by decide +kernel
theorem d18_9 : decode jdk_42_method_54_code 9 = .ok (.ishr, 1) := by decide +kernel
theorem d18_10 : decode jdk_42_method_54_code 10 = .ok (.ireturn, 1) := by decide +kernel
theorem pd_12 : parseMethodDescriptor "()B" = some ⟨[], some .byte⟩ := by decide +kernel
theorem ef_length (m : MethodId) (a1 : Addr) : entryFrame m #[(.ref a1)] 1 = mkF m 0 #[.val (.ref a1)] [] := by first | (simp [entryFrame, mkF, argsToLocals, Value.category]; done) | rfl
def Qlength (Z : State) (a1 : Addr) (cs : List Int32) (cz : Int32) (h0 : Heap) (n0 : Nat) (v : Option Value) (h : Heap) (L : List Loc) : Prop := v = some (.int (Int32.ofNat cs.length)) ∧ Fr n0 L ∧ h = h0
theorem rmlength (l : Launch) (Z : State) (a0 : Array Value) (hw : ∀ d ∈ tables_1, d.before a0 Z = true) (ws : List Jvm.Cond) (a1 : Addr) (cs : List Int32) (cz : Int32) (h0 : Heap) (n0 : Nat) (Z0 : n0 ≤ h0.size) (O0 : Old Z n0 h0) (Scs : Sta Z Z.heap "java/lang/String" "COMPACT_STRINGS" "Z" (.int cz)) (hcs : ¬ (cz = (0 : Int32))) (S1 : own_S Z h0 a1 cs) :
    MetFree l (⟨"java/lang/String", "length", "()I"⟩ : MethodName) (head1 (Jvm.Cond.code (⟨"java/lang/String", "length", "()I"⟩ : MethodName) jdk_42_method_54_code 1 (some .int) :: ws) ({ frames := 1, cells := 0, slots := 0, locals := 13 } : Room)) (fun a U => a = #[(.ref a1)] ∧ Z.Warmed39 U.vm ∧ U.heap = h0) (fun _ _ _ _ _ => True) (fun _ U o U' => ∃ v L, o = .returned v ∧ Qlength Z a1 cs cz h0 n0 v U'.heap L ∧ FrameEnd U o U' L ({ frames := 1, cells := 0, slots := 0, locals := 13 } : Room).cells ({ frames := 1, cells := 0, slots := 0, locals := 13 } : Room).slots) := by
  refine MetFree.of_bodySF (plainFor_of_name pn_java_lang_String) hisR ?_
  intro p e s m args below meth c s₁ Bd hml0 hP hK
  obtain ⟨rfl, hZ, hH0⟩ := hP
  have hx := Bd.exec
  have hby := Bd.bytes
  have hml : c.maxLocals = 1 := hml0
  have hown : s.vm.findClass "java/lang/String" = some m.cls := findClass_of_methodNamed Bd.named
  have hnm := (name_of_methodNamed Bd.named Bd.method).1
  have X0 : Stand p l e ({ frames := 1, cells := 0, slots := 0, locals := 13 } : Room) s m #[(.ref a1)] below meth c s₁ [] 0 0 := Stand.of_body Bd
  have e0 : s₁.heap = h0 := by rw [← hH0, Bd.state]; rfl
  have N0 := Fr.nil n0
  refine own_cast (ef_length m a1) ?_
  show own_Go p e below (fun o U' => ∃ v L, o = .returned v ∧ Qlength Z a1 cs cz h0 n0 v U'.heap L ∧ FrameEnd s o U' L ({ frames := 1, cells := 0, slots := 0, locals := 13 } : Room).cells ({ frames := 1, cells := 0, slots := 0, locals := 13 } : Room).slots) (s₁.setTop (mkF m 0 #[.val (.ref a1)] []))
  have S1' := S1
  obtain ⟨E1, ⟨t1, k1, cd, N2, vs, C1, V1, B1, hC⟩, hbd, hl⟩ := S1'
  rcases hC with ⟨rfl, rfl, rfl, hal⟩ | ⟨rfl, rfl, rfl, hal⟩
  · refine own_aloadN X0 hx (hb hby d18_0) (q := 1) rfl rfl rfl ?_
    obtain ⟨T_1, X_1, e_1, st_1⟩ := getF X0 hx hZ hown (host := "") (Or.inl (own_w hw 68 rfl)) Via.refl e0 V1 (g := (mkF m 1 #[.val (.ref a1)] [(.ref a1)])) rfl rfl (hb hby d18_1)
    refine own_via st_1 ?_
    show own_Go p e below _ (T_1.setTop (mkF m 4 #[.val (.ref a1)] [(.ref t1)]))
    obtain ⟨cl_2, Ar_2, q_2, S_2, M_2, H_2, G_2⟩ := (id B1)
    refine own_via (X_1.arraylength hx (by rw [e_1]; exact Ar_2.1) (State.isArrayOf_alike hZ.alike Ar_2.2.1) (g := (mkF m 4 #[.val (.ref a1)] [(.ref t1)])) rfl rfl (hb hby d18_4)) ?_
    rw [len_of S_2 M_2]
    show own_Go p e below _ (T_1.setTop (mkF m 5 #[.val (.ref a1)] [(.int (Int32.ofNat cs.length))]))
    refine own_aloadN X_1 hx (hb hby d18_5) (q := 6) rfl rfl rfl ?_
    obtain ⟨cq_3, kq_3, q_3a, q_3b, q_3c⟩ := isOf hZ e_1 E1
    obtain ⟨_, _, ⟨T_3, L_3, k_3, n_3⟩, -, X_3, ⟨Lc_3, hQ_3, l_3, y_3, z_3⟩, st_3⟩ := X_1.virtualBack hx (y := (⟨"java/lang/String", "coder", "()B"⟩ : MethodName)) (z := (⟨"java/lang/String", "coder", "()B"⟩ : MethodName)) hown (mvT hZ (own_w hw 79 rfl)) (mvT hZ (own_w hw 80 rfl)) (notFace_of_selects (args := #[]) (mvT hZ (own_w hw 82 rfl))) (mvT hZ (own_w hw 82 rfl)) (mvT hZ (own_w hw 81 rfl)) (by decide) (backOf (W := 1) (rmcoder0 l Z a0 hw [] a1 cz h0 n0 Z0 O0 Scs hcs C1) hZ (own_w hw 83 rfl) (own_w hw 24 rfl) (by decide) (by decide)) q_3a q_3c (g := (mkF m 6 #[.val (.ref a1)] [(.ref a1), (.int (Int32.ofNat cs.length))])) rfl (by rw [hml]; rfl) (Steps.refl _) (argsL := []) (rest := [(.int (Int32.ofNat cs.length))]) (lenOf pd_12 rfl) rfl (by show 2 * 0 + _ ≤ _; exact Nat.le_of_eq rfl) (hb hby d18_6) (fun _ _ => ⟨rfl, e_1, (by decide : 0 + 0 ≤ _), (by decide : 0 + 0 ≤ _)⟩)
    dsimp only [Pt.U, Pt.locs, Pt.cells, Pt.slots] at X_3 l_3 y_3 z_3 st_3 hQ_3
    subst l_3 y_3 z_3
    obtain ⟨rfl, Nq_3, e_3⟩ := hQ_3
    have N_3 := Fr.app N0 Nq_3
    refine own_via (fun _ k => st_3.trans k) ?_
    show own_Go p e below _ (T_3.setTop (mkF m 9 #[.val (.ref a1)] [(.int (0 : Int32)), (.int (Int32.ofNat cs.length))]))
    refine own_via (fun _ => XS.ishr X_3.here hx rfl (hb hby d18_9) rfl) ?_
    show own_Go p e below _ (T_3.setTop (mkF m 10 #[.val (.ref a1)] [(.int ((Int32.ofNat cs.length) >>> ((0 : Int32) &&& 31)))]))
    rw [own_shr0]
    show own_Go p e below _ (T_3.setTop (mkF m 10 #[.val (.ref a1)] [(.int (Int32.ofNat cs.length))]))
    exact own_retv X_3 Bd.notSynchronized hx Bd.returns rfl (Or.inl ⟨rfl, (by simp), _, rfl⟩) (hb hby d18_10) (by decide) (by decide) (by rw [e_3]; exact ⟨rfl, N_3, rfl⟩)
  · refine own_aloadN X0 hx (hb hby d18_0) (q := 1) rfl rfl rfl ?_
    obtain ⟨T_4, X_4, e_4, st_4⟩ := getF X0 hx hZ hown (host := "") (Or.inl (own_w hw 68 rfl)) Via.refl e0 V1 (g := (mkF m 1 #[.val (.ref a1)] [(.ref a1)])) rfl rfl (hb hby d18_1)
    refine own_via st_4 ?_
    show own_Go p e below _ (T_4.setTop (mkF m 4 #[.val (.ref a1)] [(.ref t1)]))
    obtain ⟨cl_5, Ar_5, q_5, S_5, M_5, H_5, G_5⟩ := (id B1)
    refine own_via (X_4.arraylength hx (by rw [e_4]; exact Ar_5.1) (State.isArrayOf_alike hZ.alike Ar_5.2.1) (g := (mkF m 4 #[.val (.ref a1)] [(.ref t1)])) rfl rfl (hb hby d18_4)) ?_
    rw [len_of S_5 M_5]
    show own_Go p e below _ (T_4.setTop (mkF m 5 #[.val (.ref a1)] [(.int (Int32.ofNat (2 * cs.length)))]))
    refine own_aloadN X_4 hx (hb hby d18_5) (q := 6) rfl rfl rfl ?_
    obtain ⟨cq_6, kq_6, q_6a, q_6b, q_6c⟩ := isOf hZ e_4 E1
    obtain ⟨_, _, ⟨T_6, L_6, k_6, n_6⟩, -, X_6, ⟨Lc_6, hQ_6, l_6, y_6, z_6⟩, st_6⟩ := X_4.virtualBack hx (y := (⟨"java/lang/String", "coder", "()B"⟩ : MethodName)) (z := (⟨"java/lang/String", "coder", "()B"⟩ : MethodName)) hown (mvT hZ (own_w hw 79 rfl)) (mvT hZ (own_w hw 80 rfl)) (notFace_of_selects (args := #[]) (mvT hZ (own_w hw 82 rfl))) (mvT hZ (own_w hw 82 rfl)) (mvT hZ (own_w hw 81 rfl)) (by decide) (backOf (W := 1) (rmcoder1 l Z a0 hw [] a1 cz h0 n0 Z0 O0 Scs hcs C1) hZ (own_w hw 83 rfl) (own_w hw 24 rfl) (by decide) (by decide)) q_6a q_6c (g := (mkF m 6 #[.val (.ref a1)] [(.ref a1), (.int (Int32.ofNat (2 * cs.length)))])) rfl (by rw [hml]; rfl) (Steps.refl _) (argsL := []) (rest := [(.int (Int32.ofNat (2 * cs.length)))]) (lenOf pd_12 rfl) rfl (by show 2 * 0 + _ ≤ _; exact Nat.le_of_eq rfl) (hb hby d18_6) (fun _ _ => ⟨rfl, e_4, (by decide : 0 + 0 ≤ _), (by decide : 0 + 0 ≤ _)⟩)
    dsimp only [Pt.U, Pt.locs, Pt.cells, Pt.slots] at X_6 l_6 y_6 z_6 st_6 hQ_6
    subst l_6 y_6 z_6
    obtain ⟨rfl, Nq_6, e_6⟩ := hQ_6
    have N_6 := Fr.app N0 Nq_6
    refine own_via (fun _ k => st_6.trans k) ?_
    show own_Go p e below _ (T_6.setTop (mkF m 9 #[.val (.ref a1)] [(.int (1 : Int32)), (.int (Int32.ofNat (2 * cs.length)))]))
    refine own_via (fun _ => XS.ishr X_6.here hx rfl (hb hby d18_9) rfl) ?_
    show own_Go p e below _ (T_6.setTop (mkF m 10 #[.val (.ref a1)] [(.int ((Int32.ofNat (2 * cs.length)) >>> ((1 : Int32) &&& 31)))]))
    rw [own_shr1 (by omega)]
    show own_Go p e below _ (T_6.setTop (mkF m 10 #[.val (.ref a1)] [(.int (Int32.ofNat cs.length))]))
    exact own_retv X_6 Bd.notSynchronized hx Bd.returns rfl (Or.inl ⟨rfl, (by simp), _, rfl⟩) (hb hby d18_10) (by decide) (by decide) (by rw [e_6]; exact ⟨rfl, N_6, rfl⟩)
theorem d28_0 : decode jdk_41_method_11_code 0 = .ok (.iload_n 0, 1) := by decide +kernel
theorem d28_1 : decode jdk_41_method_11_code 1 = .ok (.ifCond .lt 8, 3) := by decide +kernel
theorem d28_4 : decode jdk_41_method_11_code 4 = .ok (.iload_n 0, 1) := by decide +kernel
theorem d28_5 : decode jdk_41_method_11_code 5 = .ok (.iload_n 1, 1) := by decide +kernel
theorem d28_6 : decode jdk_41_method_11_code 6 = .ok (.if_icmp .lt 10, 3) := by decide +kernel
theorem d28_16 : decode jdk_41_method_11_code 16 = .ok (.iload_n 0, 1) := by decide +kernel
theorem d28_17 : decode jdk_41_method_11_code 17 = .ok (.ireturn, 1) := by decide +kernel
theorem pn_jdk_internal_util_Preconditions : plainName "jdk/internal/util/Preconditions" = true := by first | (simp [plainName, overriddenIn]; done) | decide +kernel
theorem ef_pcki (m : MethodId) (sf : Value) (i : Nat) (n : Nat) (hrsf : sf.isRef = true) : entryFrame m #[(.int (Int32.ofNat i)), (.int (Int32.ofNat n)), sf] 3 = mkF m 0 #[.val (.int (Int32.ofNat i)), .val (.int (Int32.ofNat n)), .val sf] [] := by rcases ref_cases hrsf with rfl | ⟨ysf, rfl⟩ <;>  first | (simp [entryFrame, mkF, argsToLocals, Value.category]; done) | rfl
def Qpcki (Z : State) (i : Nat) (n : Nat) (sf : Value) (h0 : Heap) (n0 : Nat) (v : Option Value) (h : Heap) (L : List Loc) : Prop := v = some (.int (Int32.ofNat i)) ∧ Fr n0 L ∧ h = h0
theorem rmpcki (l : Launch) (Z : State) (a0 : Array Value) (hw : ∀ d ∈ tables_1, d.before a0 Z = true) (ws : List Jvm.Cond) (i : Nat) (n : Nat) (sf : Value) (h0 : Heap) (n0 : Nat) (Z0 : n0 ≤ h0.size) (hsf : sf.isRef = true) (hi : i < n) (hn : n ≤ 103) :
    MetFree l (⟨"jdk/internal/util/Preconditions", "checkIndex", "(IILjava/util/function/BiFunction;)I"⟩ : MethodName) (head1 (Jvm.Cond.code (⟨"jdk/internal/util/Preconditions", "checkIndex", "(IILjava/util/function/BiFunction;)I"⟩ : MethodName) jdk_41_method_11_code 3 (some .int) :: ws) ({ frames := 0, cells := 0, slots := 0, locals := 0 } : Room)) (fun a U => a = #[(.int (Int32.ofNat i)), (.int (Int32.ofNat n)), sf] ∧ Z.Warmed39 U.vm ∧ U.heap = h0) (fun _ _ _ _ _ => True) (fun _ U o U' => ∃ v L, o = .returned v ∧ Qpcki Z i n sf h0 n0 v U'.heap L ∧ FrameEnd U o U' L ({ frames := 0, cells := 0, slots := 0, locals := 0 } : Room).cells ({ frames := 0, cells := 0, slots := 0, locals := 0 } : Room).slots) := by
  refine MetFree.of_bodySF (plainFor_of_name pn_jdk_internal_util_Preconditions) hisR ?_
  intro p e s m args below meth c s₁ Bd hml0 hP hK
  obtain ⟨rfl, hZ, hH0⟩ := hP
  have hx := Bd.exec
  have hby := Bd.bytes
  have hml : c.maxLocals = 3 := hml0
  have hown : s.vm.findClass "jdk/internal/util/Preconditions" = some m.cls := findClass_of_methodNamed Bd.named
  have hnm := (name_of_methodNamed Bd.named Bd.method).1
  have X0 : Stand p l e ({ frames := 0, cells := 0, slots := 0, locals := 0 } : Room) s m #[(.int (Int32.ofNat i)), (.int (Int32.ofNat n)), sf] below meth c s₁ [] 0 0 := Stand.of_body Bd
  have e0 : s₁.heap = h0 := by rw [← hH0, Bd.state]; rfl
  have N0 := Fr.nil n0
  refine own_cast (ef_pcki m sf i n hsf) ?_
  show own_Go p e below (fun o U' => ∃ v L, o = .returned v ∧ Qpcki Z i n sf h0 n0 v U'.heap L ∧ FrameEnd s o U' L ({ frames := 0, cells := 0, slots := 0, locals := 0 } : Room).cells ({ frames := 0, cells := 0, slots := 0, locals := 0 } : Room).slots) (s₁.setTop (mkF m 0 #[.val (.int (Int32.ofNat i)), .val (.int (Int32.ofNat n)), .val sf] []))
  refine own_iloadN X0 hx (hb hby d28_0) (q := 1) rfl rfl ?_
  refine own_via (fun _ => XS.ifNo X0.here hx rfl (hb hby d28_1) rfl ((if0 _ _).trans (flt (own_nn (by omega) : ¬ ((Int32.ofNat i) < (0 : Int32)))).1)) ?_
  show own_Go p e below _ (s₁.setTop (mkF m 4 #[.val (.int (Int32.ofNat i)), .val (.int (Int32.ofNat n)), .val sf] []))
  refine own_iloadN X0 hx (hb hby d28_4) (q := 5) rfl rfl ?_
  refine own_iloadN X0 hx (hb hby d28_5) (q := 6) rfl rfl ?_
  refine own_via (fun _ => XS.icmpYes X0.here hx rfl (pc0 := 6) (pc' := 16) rfl (hb hby d28_6) rfl (tlt ((own_lt (by omega) (by omega)).mpr hi : (Int32.ofNat i) < (Int32.ofNat n))).1 (by decide) (by decide)) ?_
  show own_Go p e below _ (s₁.setTop (mkF m 16 #[.val (.int (Int32.ofNat i)), .val (.int (Int32.ofNat n)), .val sf] []))
  refine own_iloadN X0 hx (hb hby d28_16) (q := 17) rfl rfl ?_
  exact own_retv X0 Bd.notSynchronized hx Bd.returns rfl (Or.inl ⟨rfl, (by simp), _, rfl⟩) (hb hby d28_17) (by decide) (by decide) (by rw [e0]; exact ⟨rfl, N0, rfl⟩)
theorem d27_0 : decode jdk_42_method_155_code 0 = .ok (.iload_n 0, 1) := by decide +kernel
theorem d27_1 : decode jdk_42_method_155_code 1 = .ok (.iload_n 1, 1) := by decide +kernel
theorem d27_2 : decode jdk_42_method_155_code 2 = .ok (.getstatic 1053, 3) := by decide +kernel
theorem d27_5 : decode jdk_42_method_155_code 5 = .ok (.invokestatic 1059, 3) := by decide +kernel
theorem d27_8 : decode jdk_42_method_155_code 8 = .ok (.pop, 1) := by decide +kernel
theorem d27_9 : decode jdk_42_method_155_code 9 = .ok (.return_, 1) := by decide +kernel
theorem pd_13 : parseMethodDescriptor "(IILjava/util/function/BiFunction;)I" = some ⟨[.int, .int, (.object "java/util/function/BiFunction")], some .int⟩ := by decide +kernel
theorem ef_scki (m : MethodId) (i : Nat) (n : Nat) : entryFrame m #[(.int (Int32.ofNat i)), (.int (Int32.ofNat n))] 2 = mkF m 0 #[.val (.int (Int32.ofNat i)), .val (.int (Int32.ofNat n))] [] := by first | (simp [entryFrame, mkF, argsToLocals, Value.category]; done) | rfl
def Qscki (Z : State) (i : Nat) (n : Nat) (sf : Value) (h0 : Heap) (n0 : Nat) (v : Option Value) (h : Heap) (L : List Loc) : Prop := v = none ∧ Fr n0 L ∧ h = h0
theorem rmscki (l : Launch) (Z : State) (a0 : Array Value) (hw : ∀ d ∈ tables_1, d.before a0 Z = true) (ws : List Jvm.Cond) (i : Nat) (n : Nat) (sf : Value) (h0 : Heap) (n0 : Nat) (Z0 : n0 ≤ h0.size) (O0 : Old Z n0 h0) (Ssf : Sta Z Z.heap "jdk/internal/util/Preconditions" "SIOOBE_FORMATTER" "Ljava/util/function/BiFunction;" sf) (hsf : sf.isRef = true) (hi : i < n) (hn : n ≤ 103) :
    MetFree l (⟨"java/lang/String", "checkIndex", "(II)V"⟩ : MethodName) (head1 (Jvm.Cond.code (⟨"java/lang/String", "checkIndex", "(II)V"⟩ : MethodName) jdk_42_method_155_code 2 none :: ws) ({ frames := 1, cells := 0, slots := 0, locals := 14 } : Room)) (fun a U => a = #[(.int (Int32.ofNat i)), (.int (Int32.ofNat n))] ∧ Z.Warmed39 U.vm ∧ U.heap = h0) (fun _ _ _ _ _ => True) (fun _ U o U' => ∃ v L, o = .returned v ∧ Qscki Z i n sf h0 n0 v U'.heap L ∧ FrameEnd U o U' L ({ frames := 1, cells := 0, slots := 0, locals := 14 } : Room).cells ({ frames := 1, cells := 0, slots := 0, locals := 14 } : Room).slots) := by
  refine MetFree.of_bodySF (plainFor_of_name pn_java_lang_String) hisR ?_
  intro p e s m args below meth c s₁ Bd hml0 hP hK
  obtain ⟨rfl, hZ, hH0⟩ := hP
  have hx := Bd.exec
  have hby := Bd.bytes
  have hml : c.maxLocals = 2 := hml0
  have hown : s.vm.findClass "java/lang/String" = some m.cls := findClass_of_methodNamed Bd.named
  have hnm := (name_of_methodNamed Bd.named Bd.method).1
  have X0 : Stand p l e ({ frames := 1, cells := 0, slots := 0, locals := 14 } : Room) s m #[(.int (Int32.ofNat i)), (.int (Int32.ofNat n))] below meth c s₁ [] 0 0 := Stand.of_body Bd
  have e0 : s₁.heap = h0 := by rw [← hH0, Bd.state]; rfl
  have N0 := Fr.nil n0
  refine own_cast (ef_scki m i n) ?_
  show own_Go p e below (fun o U' => ∃ v L, o = .returned v ∧ Qscki Z i n sf h0 n0 v U'.heap L ∧ FrameEnd s o U' L ({ frames := 1, cells := 0, slots := 0, locals := 14 } : Room).cells ({ frames := 1, cells := 0, slots := 0, locals := 14 } : Room).slots) (s₁.setTop (mkF m 0 #[.val (.int (Int32.ofNat i)), .val (.int (Int32.ofNat n))] []))
  refine own_iloadN X0 hx (hb hby d27_0) (q := 1) rfl rfl ?_
  refine own_iloadN X0 hx (hb hby d27_1) (q := 2) rfl rfl ?_
  obtain ⟨T_1, X_1, e_1, st_1⟩ := getS2 X0 hx hZ hown (host := "") (Or.inl (own_w hw 125 rfl)) Via.refl e0 (Ssf.ext O0.2) (g := (mkF m 2 #[.val (.int (Int32.ofNat i)), .val (.int (Int32.ofNat n))] [(.int (Int32.ofNat n)), (.int (Int32.ofNat i))])) rfl (hb hby d27_2)
  refine own_via st_1 ?_
  show own_Go p e below _ (T_1.setTop (mkF m 5 #[.val (.int (Int32.ofNat i)), .val (.int (Int32.ofNat n))] [sf, (.int (Int32.ofNat n)), (.int (Int32.ofNat i))]))
  obtain ⟨_, _, ⟨T_2, L_2, k_2, n_2⟩, -, X_2, ⟨Lc_2, hQ_2, l_2, y_2, z_2⟩, st_2⟩ := Jvm.LawKit.callS X_1 hx (y := (⟨"jdk/internal/util/Preconditions", "checkIndex", "(IILjava/util/function/BiFunction;)I"⟩ : MethodName)) hown (mvT hZ (own_w hw 127 rfl)) (mvT hZ (own_w hw 128 rfl)) (mvT hZ (own_w hw 126 rfl)) (mvT hZ (own_w hw 129 rfl)) (by decide) (backOf (W := 0) (rmpcki l Z a0 hw [] i n sf h0 n0 Z0 hsf hi hn) hZ (own_w hw 129 rfl) (own_w hw 126 rfl) (by decide) (by decide)) (g := (mkF m 5 #[.val (.int (Int32.ofNat i)), .val (.int (Int32.ofNat n))] [sf, (.int (Int32.ofNat n)), (.int (Int32.ofNat i))])) rfl (by rw [hml]; rfl) (argsL := [(.int (Int32.ofNat i)), (.int (Int32.ofNat n)), sf]) (rest := []) (lenOf pd_13 rfl) rfl (by show 2 * 0 + _ ≤ _; exact Nat.le_of_eq rfl) (hb hby d27_5) (fun _ _ => ⟨rfl, e_1, (by decide : 0 + 0 ≤ _), (by decide : 0 + 0 ≤ _)⟩)
  dsimp only [Pt.U, Pt.locs, Pt.cells, Pt.slots] at X_2 l_2 y_2 z_2 st_2 hQ_2
  subst l_2 y_2 z_2
  obtain ⟨rfl, Nq_2, e_2⟩ := hQ_2
  have N_2 := Fr.app N0 Nq_2
  refine own_via st_2 ?_
  show own_Go p e below _ (T_2.setTop (mkF m 8 #[.val (.int (Int32.ofNat i)), .val (.int (Int32.ofNat n))] [(.int (Int32.ofNat i))]))
  refine own_via (fun _ => XS.pop X_2.here hx rfl (hb hby d27_8) rfl rfl) ?_
  show own_Go p e below _ (T_2.setTop (mkF m 9 #[.val (.int (Int32.ofNat i)), .val (.int (Int32.ofNat n))] []))
  exact own_ret0 X_2 Bd.notSynchronized hx Bd.returns (hb hby d27_9) (by decide) (by decide) (by rw [e_2]; exact ⟨rfl, N_2, rfl⟩)
theorem d26_0 : decode jdk_52_method_6_code 0 = .ok (.aload_n 0, 1) := by decide +kernel
theorem d26_1 : decode jdk_52_method_6_code 1 = .ok (.arraylength, 1) := by decide +kernel
theorem d26_2 : decode jdk_52_method_6_code 2 = .ok (.iconst 1, 1) := by decide +kernel
theorem d26_3 : decode jdk_52_method_6_code 3 = .ok (.ishr, 1) := by decide +kernel
theorem d26_4 : decode jdk_52_method_6_code 4 = .ok (.ireturn, 1) := by decide +kernel
theorem ef_ulen (m : MethodId) (a1 : Addr) : entryFrame m #[(.ref a1)] 1 = mkF m 0 #[.val (.ref a1)] [] := by first | (simp [entryFrame, mkF, argsToLocals, Value.category]; done) | rfl
def Qulen (Z : State) (a1 : Addr) (k1 : ClassId) (cs : List Int32) (h0 : Heap) (n0 : Nat) (v : Option Value) (h : Heap) (L : List Loc) : Prop := v = some (.int (Int32.ofNat cs.length)) ∧ Fr n0 L ∧ h = h0
theorem rmulen (l : Launch) (Z : State) (a0 : Array Value) (hw : ∀ d ∈ tables_1, d.before a0 Z = true) (ws : List Jvm.Cond) (a1 : Addr) (k1 : ClassId) (cs : List Int32) (h0 : Heap) (n0 : Nat) (Z0 : n0 ≤ h0.size) (A1 : Arv Z h0 a1 k1 .byte (Int32.ofNat (2 * cs.length)) (wideBytes cs) (.int (0 : Int32))) (hl : cs.length ≤ 103) :
    MetFree l (⟨"java/lang/StringUTF16", "length", "([B)I"⟩ : MethodName) (head1 (Jvm.Cond.code (⟨"java/lang/StringUTF16", "length", "([B)I"⟩ : MethodName) jdk_52_method_6_code 1 (some .int) :: ws) ({ frames := 0, cells := 0, slots := 0, locals := 0 } : Room)) (fun a U => a = #[(.ref a1)] ∧ Z.Warmed39 U.vm ∧ U.heap = h0) (fun _ _ _ _ _ => True) (fun _ U o U' => ∃ v L, o = .returned v ∧ Qulen Z a1 k1 cs h0 n0 v U'.heap L ∧ FrameEnd U o U' L ({ frames := 0, cells := 0, slots := 0, locals := 0 } : Room).cells ({ frames := 0, cells := 0, slots := 0, locals := 0 } : Room).slots) := by
  refine MetFree.of_bodySF (plainFor_of_name pn_java_lang_StringUTF16) hisR ?_
  intro p e s m args below meth c s₁ Bd hml0 hP hK
  obtain ⟨rfl, hZ, hH0⟩ := hP
  have hx := Bd.exec
  have hby := Bd.bytes
  have hml : c.maxLocals = 1 := hml0
  have hown : s.vm.findClass "java/lang/StringUTF16" = some m.cls := findClass_of_methodNamed Bd.named
  have hnm := (name_of_methodNamed Bd.named Bd.method).1
  have X0 : Stand p l e ({ frames := 0, cells := 0, slots := 0, locals := 0 } : Room) s m #[(.ref a1)] below meth c s₁ [] 0 0 := Stand.of_body Bd
  have e0 : s₁.heap = h0 := by rw [← hH0, Bd.state]; rfl
  have N0 := Fr.nil n0
  refine own_cast (ef_ulen m a1) ?_
  show own_Go p e below (fun o U' => ∃ v L, o = .returned v ∧ Qulen Z a1 k1 cs h0 n0 v U'.heap L ∧ FrameEnd s o U' L ({ frames := 0, cells := 0, slots := 0, locals := 0 } : Room).cells ({ frames := 0, cells := 0, slots := 0, locals := 0 } : Room).slots) (s₁.setTop (mkF m 0 #[.val (.ref a1)] []))
  refine own_aloadN X0 hx (hb hby d26_0) (q := 1) rfl rfl rfl ?_
  obtain ⟨cl_1, Ar_1, q_1, S_1, M_1, H_1, G_1⟩ := (id A1)
  refine own_via (X0.arraylength hx (by rw [e0]; exact Ar_1.1) (State.isArrayOf_alike hZ.alike Ar_1.2.1) (g := (mkF m 1 #[.val (.ref a1)] [(.ref a1)])) rfl rfl (hb hby d26_1)) ?_
  rw [len_of S_1 M_1]
  show own_Go p e below _ (s₁.setTop (mkF m 2 #[.val (.ref a1)] [(.int (Int32.ofNat (2 * cs.length)))]))
  refine own_iconst X0 hx (hb hby d26_2) (q := 3) (z := (1 : Int32)) rfl rfl ?_
  refine own_via (fun _ => XS.ishr X0.here hx rfl (hb hby d26_3) rfl) ?_
  show own_Go p e below _ (s₁.setTop (mkF m 4 #[.val (.ref a1)] [(.int ((Int32.ofNat (2 * cs.length)) >>> ((1 : Int32) &&& 31)))]))
  rw [own_shr1 (by omega)]
  show own_Go p e below _ (s₁.setTop (mkF m 4 #[.val (.ref a1)] [(.int (Int32.ofNat cs.length))]))
  exact own_retv X0 Bd.notSynchronized hx Bd.returns rfl (Or.inl ⟨rfl, (by simp), _, rfl⟩) (hb hby d26_4) (by decide) (by decide) (by rw [e0]; exact ⟨rfl, N0, rfl⟩)
theorem d25_0 : decode jdk_52_method_91_code 0 = .ok (.iload_n 0, 1) := by decide +kernel
theorem d25_1 : decode jdk_52_method_91_code 1 = .ok (.aload_n 1, 1) := by decide +kernel
theorem d25_2 : decode jdk_52_method_91_code 2 = .ok (.invokestatic 48, 3) := by decide +kernel
theorem d25_5 : decode jdk_52_method_91_code 5 = .ok (.invokestatic 414, 3) := by decide +kernel
theorem d25_8 : decode jdk_52_method_91_code 8 = .ok (.return_, 1) := by decide +kernel
theorem pd_14 : parseMethodDescriptor "(II)V" = some ⟨[.int, .int], none⟩ := by decide +kernel
theorem ef_ucki (m : MethodId) (a1 : Addr) (i : Nat) : entryFrame m #[(.int (Int32.ofNat i)), (.ref a1)] 2 = mkF m 0 #[.val (.int (Int32.ofNat i)), .val (.ref a1)] [] := by first | (simp [entryFrame, mkF, argsToLocals, Value.category]; done) | rfl
def Qucki (Z : State) (a1 : Addr) (k1 : ClassId) (cs : List Int32) (i : Nat) (sf : Value) (h0 : Heap) (n0 : Nat) (v : Option Value) (h : Heap) (L : List Loc) : Prop := v = none ∧ Fr n0 L ∧ h = h0
theorem rmucki (l : Launch) (Z : State) (a0 : Array Value) (hw : ∀ d ∈ tables_1, d.before a0 Z = true) (ws : List Jvm.Cond) (a1 : Addr) (k1 : ClassId) (cs : List Int32) (i : Nat) (sf : Value) (h0 : Heap) (n0 : Nat) (Z0 : n0 ≤ h0.size) (O0 : Old Z n0 h0) (Ssf : Sta Z Z.heap "jdk/internal/util/Preconditions" "SIOOBE_FORMATTER" "Ljava/util/function/BiFunction;" sf) (hsf : sf.isRef = true) (A1 : Arv Z h0 a1 k1 .byte (Int32.ofNat (2 * cs.length)) (wideBytes cs) (.int (0 : Int32))) (hl : cs.length ≤ 103) (hi : i < cs.length) :
    MetFree l (⟨"java/lang/StringUTF16", "checkIndex", "(I[B)V"⟩ : MethodName) (head1 (Jvm.Cond.code (⟨"java/lang/StringUTF16", "checkIndex", "(I[B)V"⟩ : MethodName) jdk_52_method_91_code 2 none :: ws) ({ frames := 2, cells := 0, slots := 0, locals := 27 } : Room)) (fun a U => a = #[(.int (Int32.ofNat i)), (.ref a1)] ∧ Z.Warmed39 U.vm ∧ U.heap = h0) (fun _ _ _ _ _ => True) (fun _ U o U' => ∃ v L, o = .returned v ∧ Qucki Z a1 k1 cs i sf h0 n0 v U'.heap L ∧ FrameEnd U o U' L ({ frames := 2, cells := 0, slots := 0, locals := 27 } : Room).cells ({ frames := 2, cells := 0, slots := 0, locals := 27 } : Room).slots) := by
  refine MetFree.of_bodySF (plainFor_of_name pn_java_lang_StringUTF16) hisR ?_
  intro p e s m args below meth c s₁ Bd hml0 hP hK
  obtain ⟨rfl, hZ, hH0⟩ := hP
  have hx := Bd.exec
  have hby := Bd.bytes
  have hml : c.maxLocals = 2 := hml0
  have hown : s.vm.findClass "java/lang/StringUTF16" = some m.cls := findClass_of_methodNamed Bd.named
  have hnm := (name_of_methodNamed Bd.named Bd.method).1
  have X0 : Stand p l e ({ frames := 2, cells := 0, slots := 0, locals := 27 } : Room) s m #[(.int (Int32.ofNat i)), (.ref a1)] below meth c s₁ [] 0 0 := Stand.of_body Bd
  have e0 : s₁.heap = h0 := by rw [← hH0, Bd.state]; rfl
  have N0 := Fr.nil n0
  refine own_cast (ef_ucki m a1 i) ?_
  show own_Go p e below (fun o U' => ∃ v L, o = .returned v ∧ Qucki Z a1 k1 cs i sf h0 n0 v U'.heap L ∧ FrameEnd s o U' L ({ frames := 2, cells := 0, slots := 0, locals := 27 } : Room).cells ({ frames := 2, cells := 0, slots := 0, locals := 27 } : Room).slots) (s₁.setTop (mkF m 0 #[.val (.int (Int32.ofNat i)), .val (.ref a1)] []))
  refine own_iloadN X0 hx (hb hby d25_0) (q := 1) rfl rfl ?_
  refine own_aloadN X0 hx (hb hby d25_1) (q := 2) rfl rfl rfl ?_
  obtain ⟨_, _, ⟨T_1, L_1, k_1, n_1⟩, -, X_1, ⟨Lc_1, hQ_1, l_1, y_1, z_1⟩, st_1⟩ := Jvm.LawKit.callS X0 hx (y := (⟨"java/lang/StringUTF16", "length", "([B)I"⟩ : MethodName)) hown (mvT hZ (own_w hw 119 rfl)) (mvT hZ (own_w hw 120 rfl)) (mvT hZ (own_w hw 38 rfl)) (mvT hZ (own_w hw 121 rfl)) (by decide) (backOf (W := 1) (rmulen l Z a0 hw [] a1 k1 cs h0 n0 Z0 A1 hl) hZ (own_w hw 121 rfl) (own_w hw 38 rfl) (by decide) (by decide)) (g := (mkF m 2 #[.val (.int (Int32.ofNat i)), .val (.ref a1)] [(.ref a1), (.int (Int32.ofNat i))])) rfl (by rw [hml]; rfl) (argsL := [(.ref a1)]) (rest := [(.int (Int32.ofNat i))]) (lenOf pd_2 rfl) rfl (by show 2 * 0 + _ ≤ _; exact Nat.le_of_eq rfl) (hb hby d25_2) (fun _ _ => ⟨rfl, e0, (by decide : 0 + 0 ≤ _), (by decide : 0 + 0 ≤ _)⟩)
  dsimp only [Pt.U, Pt.locs, Pt.cells, Pt.slots] at X_1 l_1 y_1 z_1 st_1 hQ_1
  subst l_1 y_1 z_1
  obtain ⟨rfl, Nq_1, e_1⟩ := hQ_1
  have N_1 := Fr.app N0 Nq_1
  refine own_via st_1 ?_
  show own_Go p e below _ (T_1.setTop (mkF m 5 #[.val (.int (Int32.ofNat i)), .val (.ref a1)] [(.int (Int32.ofNat cs.length)), (.int (Int32.ofNat i))]))
  obtain ⟨_, _, ⟨T_2, L_2, k_2, n_2⟩, -, X_2, ⟨Lc_2, hQ_2, l_2, y_2, z_2⟩, st_2⟩ := Jvm.LawKit.callS X_1 hx (y := (⟨"java/lang/String", "checkIndex", "(II)V"⟩ : MethodName)) hown (mvT hZ (own_w hw 122 rfl)) (mvT hZ (own_w hw 123 rfl)) (mvT hZ (own_w hw 24 rfl)) (mvT hZ (own_w hw 124 rfl)) (by decide) (backOf (W := 0) (rmscki l Z a0 hw [] i cs.length sf h0 n0 Z0 O0 Ssf hsf hi hl) hZ (own_w hw 124 rfl) (own_w hw 24 rfl) (by decide) (by decide)) (g := (mkF m 5 #[.val (.int (Int32.ofNat i)), .val (.ref a1)] [(.int (Int32.ofNat cs.length)), (.int (Int32.ofNat i))])) rfl (by rw [hml]; rfl) (argsL := [(.int (Int32.ofNat i)), (.int (Int32.ofNat cs.length))]) (rest := []) (lenOf pd_14 rfl) rfl (by show 2 * 0 + _ ≤ _; exact Nat.le_of_eq rfl) (hb hby d25_5) (fun _ _ => ⟨rfl, e_1, (by decide : 0 + 0 ≤ _), (by decide : 0 + 0 ≤ _)⟩)
  dsimp only [Pt.U, Pt.locs, Pt.cells, Pt.slots] at X_2 l_2 y_2 z_2 st_2 hQ_2
  subst l_2 y_2 z_2
  obtain ⟨rfl, Nq_2, e_2⟩ := hQ_2
  have N_2 := Fr.app N_1 Nq_2
  refine own_via st_2 ?_
  show own_Go p e below _ (T_2.setTop (mkF m 8 #[.val (.int (Int32.ofNat i)), .val (.ref a1)] []))
  exact own_ret0 X_2 Bd.notSynchronized hx Bd.returns (hb hby d25_8) (by decide) (by decide) (by rw [e_2]; exact ⟨rfl, N_2, rfl⟩)
theorem d24_0 : decode jdk_52_method_83_code 0 = .ok (.iload_n 1, 1) := by decide +kernel
theorem d24_1 : decode jdk_52_method_83_code 1 = .ok (.aload_n 0, 1) := by decide +kernel
theorem d24_2 : decode jdk_52_method_83_code 2 = .ok (.invokestatic 67, 3) := by decide +kernel
theorem d24_5 : decode jdk_52_method_83_code 5 = .ok (.aload_n 0, 1) := by decide +kernel
theorem d24_6 : decode jdk_52_method_83_code 6 = .ok (.iload_n 1, 1) := by decide +kernel
theorem d24_7 : decode jdk_52_method_83_code 7 = .ok (.invokestatic 71, 3) := by decide +kernel
theorem d24_10 : decode jdk_52_method_83_code 10 = .ok (.ireturn, 1) := by decide +kernel
theorem pd_15 : parseMethodDescriptor "(I[B)V" = some ⟨[.int, (.array .byte)], none⟩ := by decide +kernel
theorem ef_uca (m : MethodId) (a1 : Addr) (i : Nat) : entryFrame m #[(.ref a1), (.int (Int32.ofNat i))] 2 = mkF m 0 #[.val (.ref a1), .val (.int (Int32.ofNat i))] [] := by first | (simp [entryFrame, mkF, argsToLocals, Value.category]; done) | rfl
def Quca (Z : State) (a1 : Addr) (k1 : ClassId) (cs : List Int32) (i : Nat) (sf : Value) (h0 : Heap) (n0 : Nat) (v : Option Value) (h : Heap) (L : List Loc) : Prop := v = some (.int (cs.getD i 0)) ∧ Fr n0 L ∧ h = h0
theorem rmuca (l : Launch) (Z : State) (a0 : Array Value) (hw : ∀ d ∈ tables_1, d.before a0 Z = true) (ws : List Jvm.Cond) (a1 : Addr) (k1 : ClassId) (cs : List Int32) (i : Nat) (sf : Value) (h0 : Heap) (n0 : Nat) (Z0 : n0 ≤ h0.size) (O0 : Old Z n0 h0) (Sad : Sta Z Z.heap "java/lang/StringUTF16" "$assertionsDisabled" "Z" (.int (1 : Int32))) (Shi : Sta Z Z.heap "java/lang/StringUTF16" "HI_BYTE_SHIFT" "I" (.int (0 : Int32))) (Slo : Sta Z Z.heap "java/lang/StringUTF16" "LO_BYTE_SHIFT" "I" (.int (8 : Int32))) (Ssf : Sta Z Z.heap "jdk/internal/util/Preconditions" "SIOOBE_FORMATTER" "Ljava/util/function/BiFunction;" sf) (hsf : sf.isRef = true) (A1 : Arv Z h0 a1 k1 .byte (Int32.ofNat (2 * cs.length)) (wideBytes cs) (.int (0 : Int32))) (hl : cs.length ≤ 103) (hbd : ∀ c ∈ cs, ¬ c < 0 ∧ ¬ (65535 : Int32) < c) (hi : i < cs.length) :
    MetFree l (⟨"java/lang/StringUTF16", "charAt", "([BI)C"⟩ : MethodName) (head1 (Jvm.Cond.code (⟨"java/lang/StringUTF16", "charAt", "([BI)C"⟩ : MethodName) jdk_52_method_83_code 2 (some .char) :: ws) ({ frames := 3, cells := 0, slots := 0, locals := 40 } : Room)) (fun a U => a = #[(.ref a1), (.int (Int32.ofNat i))] ∧ Z.Warmed39 U.vm ∧ U.heap = h0) (fun _ _ _ _ _ => True) (fun _ U o U' => ∃ v L, o = .returned v ∧ Quca Z a1 k1 cs i sf h0 n0 v U'.heap L ∧ FrameEnd U o U' L ({ frames := 3, cells := 0, slots := 0, locals := 40 } : Room).cells ({ frames := 3, cells := 0, slots := 0, locals := 40 } : Room).slots) := by
  refine MetFree.of_bodySF (plainFor_of_name pn_java_lang_StringUTF16) hisR ?_
  intro p e s m args below meth c s₁ Bd hml0 hP hK
  obtain ⟨rfl, hZ, hH0⟩ := hP
  have hx := Bd.exec
  have hby := Bd.bytes
  have hml : c.maxLocals = 2 := hml0
  have hown : s.vm.findClass "java/lang/StringUTF16" = some m.cls := findClass_of_methodNamed Bd.named
  have hnm := (name_of_methodNamed Bd.named Bd.method).1
  have X0 : Stand p l e ({ frames := 3, cells := 0, slots := 0, locals := 40 } : Room) s m #[(.ref a1), (.int (Int32.ofNat i))] below meth c s₁ [] 0 0 := Stand.of_body Bd
  have e0 : s₁.heap = h0 := by rw [← hH0, Bd.state]; rfl
  have N0 := Fr.nil n0
  refine own_cast (ef_uca m a1 i) ?_
  show own_Go p e below (fun o U' => ∃ v L, o = .returned v ∧ Quca Z a1 k1 cs i sf h0 n0 v U'.heap L ∧ FrameEnd s o U' L ({ frames := 3, cells := 0, slots := 0, locals := 40 } : Room).cells ({ frames := 3, cells := 0, slots := 0, locals := 40 } : Room).slots) (s₁.setTop (mkF m 0 #[.val (.ref a1), .val (.int (Int32.ofNat i))] []))
  refine own_iloadN X0 hx (hb hby d24_0) (q := 1) rfl rfl ?_
  refine own_aloadN X0 hx (hb hby d24_1) (q := 2) rfl rfl rfl ?_
  obtain ⟨_, _, ⟨T_1, L_1, k_1, n_1⟩, -, X_1, ⟨Lc_1, hQ_1, l_1, y_1, z_1⟩, st_1⟩ := Jvm.LawKit.callS X0 hx (y := (⟨"java/lang/StringUTF16", "checkIndex", "(I[B)V"⟩ : MethodName)) hown (mvT hZ (own_w hw 116 rfl)) (mvT hZ (own_w hw 117 rfl)) (mvT hZ (own_w hw 38 rfl)) (mvT hZ (own_w hw 118 rfl)) (by decide) (backOf (W := 0) (rmucki l Z a0 hw [] a1 k1 cs i sf h0 n0 Z0 O0 Ssf hsf A1 hl hi) hZ (own_w hw 118 rfl) (own_w hw 38 rfl) (by decide) (by decide)) (g := (mkF m 2 #[.val (.ref a1), .val (.int (Int32.ofNat i))] [(.ref a1), (.int (Int32.ofNat i))])) rfl (by rw [hml]; rfl) (argsL := [(.int (Int32.ofNat i)), (.ref a1)]) (rest := []) (lenOf pd_15 rfl) rfl (by show 2 * 0 + _ ≤ _; exact Nat.le_of_eq rfl) (hb hby d24_2) (fun _ _ => ⟨rfl, e0, (by decide : 0 + 0 ≤ _), (by decide : 0 + 0 ≤ _)⟩)
  dsimp only [Pt.U, Pt.locs, Pt.cells, Pt.slots] at X_1 l_1 y_1 z_1 st_1 hQ_1
  subst l_1 y_1 z_1
  obtain ⟨rfl, Nq_1, e_1⟩ := hQ_1
  have N_1 := Fr.app N0 Nq_1
  refine own_via st_1 ?_
  show own_Go p e below _ (T_1.setTop (mkF m 5 #[.val (.ref a1), .val (.int (Int32.ofNat i))] []))
  refine own_aloadN X_1 hx (hb hby d24_5) (q := 6) rfl rfl rfl ?_
  refine own_iloadN X_1 hx (hb hby d24_6) (q := 7) rfl rfl ?_
  obtain ⟨_, _, ⟨T_2, L_2, k_2, n_2⟩, -, X_2, ⟨Lc_2, hQ_2, l_2, y_2, z_2⟩, st_2⟩ := Jvm.LawKit.callS X_1 hx (y := (⟨"java/lang/StringUTF16", "getChar", "([BI)C"⟩ : MethodName)) hown (mvT hZ (own_w hw 60 rfl)) (mvT hZ (own_w hw 61 rfl)) (mvT hZ (own_w hw 38 rfl)) (mvT hZ (own_w hw 62 rfl)) (by decide) (backOf (W := 0) (rmgetChar l Z a0 hw [] a1 k1 cs i h0 n0 Z0 O0 Sad Shi Slo A1 hl hi hbd) hZ (own_w hw 62 rfl) (own_w hw 38 rfl) (by decide) (by decide)) (g := (mkF m 7 #[.val (.ref a1), .val (.int (Int32.ofNat i))] [(.int (Int32.ofNat i)), (.ref a1)])) rfl (by rw [hml]; rfl) (argsL := [(.ref a1), (.int (Int32.ofNat i))]) (rest := []) (lenOf pd_7 rfl) rfl (by show 2 * 0 + _ ≤ _; exact Nat.le_of_eq rfl) (hb hby d24_7) (fun _ _ => ⟨rfl, e_1, (by decide : 0 + 0 ≤ _), (by decide : 0 + 0 ≤ _)⟩)
  dsimp only [Pt.U, Pt.locs, Pt.cells, Pt.slots] at X_2 l_2 y_2 z_2 st_2 hQ_2
  subst l_2 y_2 z_2
  obtain ⟨rfl, Nq_2, e_2⟩ := hQ_2
  have N_2 := Fr.app N_1 Nq_2
  refine own_via st_2 ?_
  show own_Go p e below _ (T_2.setTop (mkF m 10 #[.val (.ref a1), .val (.int (Int32.ofNat i))] [(.int (cs.getD i 0))]))
  exact own_retv X_2 Bd.notSynchronized hx Bd.returns (own_narV (own_mb hbd hi)) (Or.inl ⟨rfl, (by simp), _, rfl⟩) (hb hby d24_10) (by decide) (by decide) (by rw [e_2]; exact ⟨rfl, N_2, rfl⟩)
theorem d47_0 : decode jdk_43_method_2_code 0 = .ok (.iload_n 1, 1) := by decide +kernel
theorem d47_1 : decode jdk_43_method_2_code 1 = .ok (.aload_n 0, 1) := by decide +kernel
theorem d47_2 : decode jdk_43_method_2_code 2 = .ok (.arraylength, 1) := by decide +kernel
theorem d47_3 : decode jdk_43_method_2_code 3 = .ok (.invokestatic 9, 3) := by decide +kernel
theorem d47_6 : decode jdk_43_method_2_code 6 = .ok (.aload_n 0, 1) := by decide +kernel
theorem d47_7 : decode jdk_43_method_2_code 7 = .ok (.iload_n 1, 1) := by decide +kernel
theorem d47_8 : decode jdk_43_method_2_code 8 = .ok (.baload, 1) := by decide +kernel
theorem d47_9 : decode jdk_43_method_2_code 9 = .ok (.sipush 255, 3) := by decide +kernel
theorem d47_12 : decode jdk_43_method_2_code 12 = .ok (.iand, 1) := by decide +kernel
theorem d47_13 : decode jdk_43_method_2_code 13 = .ok (.i2c, 1) := by decide +kernel
theorem d47_14 : decode jdk_43_method_2_code 14 = .ok (.ireturn, 1) := by decide +kernel
theorem pn_java_lang_StringLatin1 : plainName "java/lang/StringLatin1" = true := by first | (simp [plainName, overriddenIn]; done) | decide +kernel
theorem ef_lca (m : MethodId) (a1 : Addr) (i : Nat) : entryFrame m #[(.ref a1), (.int (Int32.ofNat i))] 2 = mkF m 0 #[.val (.ref a1), .val (.int (Int32.ofNat i))] [] := by first | (simp [entryFrame, mkF, argsToLocals, Value.category]; done) | rfl
def Qlca (Z : State) (a1 : Addr) (k1 : ClassId) (cs : List Int32) (i : Nat) (sf : Value) (h0 : Heap) (n0 : Nat) (v : Option Value) (h : Heap) (L : List Loc) : Prop := v = some (.int (cs.getD i 0)) ∧ Fr n0 L ∧ h = h0
theorem rmlca (l : Launch) (Z : State) (a0 : Array Value) (hw : ∀ d ∈ tables_1, d.before a0 Z = true) (ws : List Jvm.Cond) (a1 : Addr) (k1 : ClassId) (cs : List Int32) (i : Nat) (sf : Value) (h0 : Heap) (n0 : Nat) (Z0 : n0 ≤ h0.size) (O0 : Old Z n0 h0) (Ssf : Sta Z Z.heap "jdk/internal/util/Preconditions" "SIOOBE_FORMATTER" "Ljava/util/function/BiFunction;" sf) (hsf : sf.isRef = true) (A1 : Arv Z h0 a1 k1 .byte (Int32.ofNat cs.length) (cs.map fun c => Value.int (lo8 c)) (.int (0 : Int32))) (hl : cs.length ≤ 103) (hbd : ∀ c ∈ cs, ¬ c < 0 ∧ ¬ (65535 : Int32) < c) (hal : ∀ c ∈ cs, ¬ (255 : Int32) < c) (hi : i < cs.length) :
    MetFree l (⟨"java/lang/StringLatin1", "charAt", "([BI)C"⟩ : MethodName) (head1 (Jvm.Cond.code (⟨"java/lang/StringLatin1", "charAt", "([BI)C"⟩ : MethodName) jdk_43_method_2_code 2 (some .char) :: ws) ({ frames := 2, cells := 0, slots := 0, locals := 27 } : Room)) (fun a U => a = #[(.ref a1), (.int (Int32.ofNat i))] ∧ Z.Warmed39 U.vm ∧ U.heap = h0) (fun _ _ _ _ _ => True) (fun _ U o U' => ∃ v L, o = .returned v ∧ Qlca Z a1 k1 cs i sf h0 n0 v U'.heap L ∧ FrameEnd U o U' L ({ frames := 2, cells := 0, slots := 0, locals := 27 } : Room).cells ({ frames := 2, cells := 0, slots := 0, locals := 27 } : Room).slots) := by
  refine MetFree.of_bodySF (plainFor_of_name pn_java_lang_StringLatin1) hisR ?_
  intro p e s m args below meth c s₁ Bd hml0 hP hK
  obtain ⟨rfl, hZ, hH0⟩ := hP
  have hx := Bd.exec
  have hby := Bd.bytes
  have hml : c.maxLocals = 2 := hml0
  have hown : s.vm.findClass "java/lang/StringLatin1" = some m.cls := findClass_of_methodNamed Bd.named
  have hnm := (name_of_methodNamed Bd.named Bd.method).1
  have X0 : Stand p l e ({ frames := 2, cells := 0, slots := 0, locals := 27 } : Room) s m #[(.ref a1), (.int (Int32.ofNat i))] below meth c s₁ [] 0 0 := Stand.of_body Bd
  have e0 : s₁.heap = h0 := by rw [← hH0, Bd.state]; rfl
  have N0 := Fr.nil n0
  refine own_cast (ef_lca m a1 i) ?_
  show own_Go p e below (fun o U' => ∃ v L, o = .returned v ∧ Qlca Z a1 k1 cs i sf h0 n0 v U'.heap L ∧ FrameEnd s o U' L ({ frames := 2, cells := 0, slots := 0, locals := 27 } : Room).cells ({ frames := 2, cells := 0, slots := 0, locals := 27 } : Room).slots) (s₁.setTop (mkF m 0 #[.val (.ref a1), .val (.int (Int32.ofNat i))] []))
  refine own_iloadN X0 hx (hb hby d47_0) (q := 1) rfl rfl ?_
  refine own_aloadN X0 hx (hb hby d47_1) (q := 2) rfl rfl rfl ?_
  obtain ⟨cl_1, Ar_1, q_1, S_1, M_1, H_1, G_1⟩ := (id A1)
  refine own_via (X0.arraylength hx (by rw [e0]; exact Ar_1.1) (State.isArrayOf_alike hZ.alike Ar_1.2.1) (g := (mkF m 2 #[.val (.ref a1), .val (.int (Int32.ofNat i))] [(.ref a1), (.int (Int32.ofNat i))])) rfl rfl (hb hby d47_2)) ?_
  rw [len_of S_1 M_1]
  show own_Go p e below _ (s₁.setTop (mkF m 3 #[.val (.ref a1), .val (.int (Int32.ofNat i))] [(.int (Int32.ofNat cs.length)), (.int (Int32.ofNat i))]))
  obtain ⟨_, _, ⟨T_2, L_2, k_2, n_2⟩, -, X_2, ⟨Lc_2, hQ_2, l_2, y_2, z_2⟩, st_2⟩ := Jvm.LawKit.callS X0 hx (y := (⟨"java/lang/String", "checkIndex", "(II)V"⟩ : MethodName)) hown (mvT hZ (own_w hw 208 rfl)) (mvT hZ (own_w hw 123 rfl)) (mvT hZ (own_w hw 24 rfl)) (mvT hZ (own_w hw 124 rfl)) (by decide) (backOf (W := 0) (rmscki l Z a0 hw [] i cs.length sf h0 n0 Z0 O0 Ssf hsf hi hl) hZ (own_w hw 124 rfl) (own_w hw 24 rfl) (by decide) (by decide)) (g := (mkF m 3 #[.val (.ref a1), .val (.int (Int32.ofNat i))] [(.int (Int32.ofNat cs.length)), (.int (Int32.ofNat i))])) rfl (by rw [hml]; rfl) (argsL := [(.int (Int32.ofNat i)), (.int (Int32.ofNat cs.length))]) (rest := []) (lenOf pd_14 rfl) rfl (by show 2 * 0 + _ ≤ _; exact Nat.le_of_eq rfl) (hb hby d47_3) (fun _ _ => ⟨rfl, e0, (by decide : 0 + 0 ≤ _), (by decide : 0 + 0 ≤ _)⟩)
  dsimp only [Pt.U, Pt.locs, Pt.cells, Pt.slots] at X_2 l_2 y_2 z_2 st_2 hQ_2
  subst l_2 y_2 z_2
  obtain ⟨rfl, Nq_2, e_2⟩ := hQ_2
  have N_2 := Fr.app N0 Nq_2
  refine own_via st_2 ?_
  show own_Go p e below _ (T_2.setTop (mkF m 6 #[.val (.ref a1), .val (.int (Int32.ofNat i))] []))
  refine own_aloadN X_2 hx (hb hby d47_6) (q := 7) rfl rfl rfl ?_
  refine own_iloadN X_2 hx (hb hby d47_7) (q := 8) rfl rfl ?_
  obtain ⟨cl_3, Ar_3, q_3, S_3, M_3, H_3, G_3⟩ := (id A1)
  have ib_3 := own_inbs (n := cs.length) (i := i) S_3 (by omega) (by omega)
  refine own_via (X_2.baloadBytes hx (j := Int32.ofNat i) (v := .int (lo8 (cs.getD i 0))) (by rw [e_2]; exact Ar_3.1) (State.isArrayOf_alike hZ.alike Ar_3.2.1) Ar_3.2.2 ib_3 (Has.at H_3 ib_3 (own_getL (by omega) hi)) (g := (mkF m 8 #[.val (.ref a1), .val (.int (Int32.ofNat i))] [(.int (Int32.ofNat i)), (.ref a1)])) rfl rfl (hb hby d47_8)) ?_
  show own_Go p e below _ (T_2.setTop (mkF m 9 #[.val (.ref a1), .val (.int (Int32.ofNat i))] [(.int (lo8 (cs.getD i 0)))]))
  refine own_sipush X_2 hx (hb hby d47_9) (q := 12) (z := (255 : Int32)) rfl rfl ?_
  refine own_via (fun _ => XS.iand X_2.here hx rfl (hb hby d47_12) rfl) ?_
  show own_Go p e below _ (T_2.setTop (mkF m 13 #[.val (.ref a1), .val (.int (Int32.ofNat i))] [(.int ((lo8 (cs.getD i 0)) &&& (255 : Int32)))]))
  refine own_via (fun _ => XS.i2c X_2.here hx rfl (hb hby d47_13) rfl) ?_
  show own_Go p e below _ (T_2.setTop (mkF m 14 #[.val (.ref a1), .val (.int (Int32.ofNat i))] [(.int (((lo8 (cs.getD i 0)) &&& (255 : Int32)).toUInt32.toUInt16.toUInt32.toInt32))]))
  rw [own_l8 ⟨(own_mb hbd hi).1, own_ma hal hi⟩]
  show own_Go p e below _ (T_2.setTop (mkF m 14 #[.val (.ref a1), .val (.int (Int32.ofNat i))] [(.int (cs.getD i 0))]))
  exact own_retv X_2 Bd.notSynchronized hx Bd.returns (own_narV (own_mb hbd hi)) (Or.inl ⟨rfl, (by simp), _, rfl⟩) (hb hby d47_14) (by decide) (by decide) (by rw [e_2]; exact ⟨rfl, N_2, rfl⟩)
theorem d22_0 : decode jdk_42_method_56_code 0 = .ok (.aload_n 0, 1) := by decide +kernel
theorem d22_1 : decode jdk_42_method_56_code 1 = .ok (.invokevirtual 492, 3) := by decide +kernel
theorem d22_4 : decode jdk_42_method_56_code 4 = .ok (.ifCond .eq 12, 3) := by decide +kernel
theorem d22_7 : decode jdk_42_method_56_code 7 = .ok (.aload_n 0, 1) := by decide +kernel
theorem d22_8 : decode jdk_42_method_56_code 8 = .ok (.getfield 9, 3) := by decide +kernel
theorem d22_11 : decode jdk_42_method_56_code 11 = .ok (.iload_n 1, 1) := by decide +kernel
theorem d22_12 : decode jdk_42_method_56_code 12 = .ok (.invokestatic 495, 3) := by decide +kernel
theorem d22_15 : decode jdk_42_method_56_code 15 = .ok (.ireturn, 1) := by decide +kernel
theorem d22_16 : decode jdk_42_method_56_code 16 = .ok (.aload_n 0, 1) := by decide +kernel
theorem d22_17 : decode jdk_42_method_56_code 17 = .ok (.getfield 9, 3) := by decide +kernel
theorem d22_20 : decode jdk_42_method_56_code 20 = .ok (.iload_n 1, 1) := by decide +kernel
theorem d22_21 : decode jdk_42_method_56_code 21 = .ok (.invokestatic 498, 3) := by decide +kernel
theorem d22_24 : decode jdk_42_method_56_code 24 = .ok (.ireturn, 1) := by decide +kernel
theorem pd_16 : parseMethodDescriptor "()Z" = some ⟨[], some .boolean⟩ := by decide +kernel
theorem ef_charAt (m : MethodId) (a1 : Addr) (i : Nat) : entryFrame m #[(.ref a1), (.int (Int32.ofNat i))] 2 = mkF m 0 #[.val (.ref a1), .val (.int (Int32.ofNat i))] [] := by first | (simp [entryFrame, mkF, argsToLocals, Value.category]; done) | rfl
def QcharAt (Z : State) (a1 : Addr) (cs : List Int32) (i : Nat) (cz : Int32) (sf : Value) (h0 : Heap) (n0 : Nat) (v : Option Value) (h : Heap) (L : List Loc) : Prop := v = some (.int (cs.getD i 0)) ∧ Fr n0 L ∧ h = h0
theorem rmcharAt (l : Launch) (Z : State) (a0 : Array Value) (hw : ∀ d ∈ tables_1, d.before a0 Z = true) (ws : List Jvm.Cond) (a1 : Addr) (cs : List Int32) (i : Nat) (cz : Int32) (sf : Value) (h0 : Heap) (n0 : Nat) (Z0 : n0 ≤ h0.size) (O0 : Old Z n0 h0) (Sad : Sta Z Z.heap "java/lang/StringUTF16" "$assertionsDisabled" "Z" (.int (1 : Int32))) (Shi : Sta Z Z.heap "java/lang/StringUTF16" "HI_BYTE_SHIFT" "I" (.int (0 : Int32))) (Slo : Sta Z Z.heap "java/lang/StringUTF16" "LO_BYTE_SHIFT" "I" (.int (8 : Int32))) (Scs : Sta Z Z.heap "java/lang/String" "COMPACT_STRINGS" "Z" (.int cz)) (hcs : ¬ (cz = (0 : Int32))) (Ssf : Sta Z Z.heap "jdk/internal/util/Preconditions" "SIOOBE_FORMATTER" "Ljava/util/function/BiFunction;" sf) (hsf : sf.isRef = true) (S1 : own_S Z h0 a1 cs) (hi : i < cs.length) :
    MetFree l (⟨"java/lang/String", "charAt", "(I)C"⟩ : MethodName) (head1 (Jvm.Cond.code (⟨"java/lang/String", "charAt", "(I)C"⟩ : MethodName) jdk_42_method_56_code 2 (some .char) :: ws) ({ frames := 4, cells := 0, slots := 0, locals := 54 } : Room)) (fun a U => a = #[(.ref a1), (.int (Int32.ofNat i))] ∧ Z.Warmed39 U.vm ∧ U.heap = h0) (fun _ _ _ _ _ => True) (fun _ U o U' => ∃ v L, o = .returned v ∧ QcharAt Z a1 cs i cz sf h0 n0 v U'.heap L ∧ FrameEnd U o U' L ({ frames := 4, cells := 0, slots := 0, locals := 54 } : Room).cells ({ frames := 4, cells := 0, slots := 0, locals := 54 } : Room).slots) := by
  refine MetFree.of_bodySF (plainFor_of_name pn_java_lang_String) hisR ?_
  intro p e s m args below meth c s₁ Bd hml0 hP hK
  obtain ⟨rfl, hZ, hH0⟩ := hP
  have hx := Bd.exec
  have hby := Bd.bytes
  have hml : c.maxLocals = 2 := hml0
  have hown : s.vm.findClass "java/lang/String" = some m.cls := findClass_of_methodNamed Bd.named
  have hnm := (name_of_methodNamed Bd.named Bd.method).1
  have X0 : Stand p l e ({ frames := 4, cells := 0, slots := 0, locals := 54 } : Room) s m #[(.ref a1), (.int (Int32.ofNat i))] below meth c s₁ [] 0 0 := Stand.of_body Bd
  have e0 : s₁.heap = h0 := by rw [← hH0, Bd.state]; rfl
  have N0 := Fr.nil n0
  refine own_cast (ef_charAt m a1 i) ?_
  show own_Go p e below (fun o U' => ∃ v L, o = .returned v ∧ QcharAt Z a1 cs i cz sf h0 n0 v U'.heap L ∧ FrameEnd s o U' L ({ frames := 4, cells := 0, slots := 0, locals := 54 } : Room).cells ({ frames := 4, cells := 0, slots := 0, locals := 54 } : Room).slots) (s₁.setTop (mkF m 0 #[.val (.ref a1), .val (.int (Int32.ofNat i))] []))
  have S1' := S1
  obtain ⟨E1, ⟨t1, k1, cd, N2, vs, C1, V1, B1, hC⟩, hbd, hl⟩ := S1'
  rcases hC with ⟨rfl, rfl, rfl, hal⟩ | ⟨rfl, rfl, rfl, hal⟩
  · refine own_aloadN X0 hx (hb hby d22_0) (q := 1) rfl rfl rfl ?_
    obtain ⟨cq_1, kq_1, q_1a, q_1b, q_1c⟩ := isOf hZ e0 E1
    obtain ⟨_, _, ⟨T_1, L_1, k_1, n_1⟩, -, X_1, ⟨Lc_1, hQ_1, l_1, y_1, z_1⟩, st_1⟩ := X0.virtualBack hx (y := (⟨"java/lang/String", "isLatin1", "()Z"⟩ : MethodName)) (z := (⟨"java/lang/String", "isLatin1", "()Z"⟩ : MethodName)) hown (mvT hZ (own_w hw 108 rfl)) (mvT hZ (own_w hw 109 rfl)) (notFace_of_selects (args := #[]) (mvT hZ (own_w hw 111 rfl))) (mvT hZ (own_w hw 111 rfl)) (mvT hZ (own_w hw 110 rfl)) (by decide) (backOf (W := 0) (rmlatin0 l Z a0 hw [] a1 cz h0 n0 Z0 O0 Scs hcs C1) hZ (own_w hw 112 rfl) (own_w hw 24 rfl) (by decide) (by decide)) q_1a q_1c (g := (mkF m 1 #[.val (.ref a1), .val (.int (Int32.ofNat i))] [(.ref a1)])) rfl (by rw [hml]; rfl) (Steps.refl _) (argsL := []) (rest := []) (lenOf pd_16 rfl) rfl (by show 2 * 0 + _ ≤ _; exact Nat.le_of_eq rfl) (hb hby d22_1) (fun _ _ => ⟨rfl, e0, (by decide : 0 + 0 ≤ _), (by decide : 0 + 0 ≤ _)⟩)
    dsimp only [Pt.U, Pt.locs, Pt.cells, Pt.slots] at X_1 l_1 y_1 z_1 st_1 hQ_1
    subst l_1 y_1 z_1
    obtain ⟨rfl, Nq_1, e_1⟩ := hQ_1
    have N_1 := Fr.app N0 Nq_1
    refine own_via (fun _ k => st_1.trans k) ?_
    show own_Go p e below _ (T_1.setTop (mkF m 4 #[.val (.ref a1), .val (.int (Int32.ofNat i))] [(.int (1 : Int32))]))
    refine own_via (fun _ => XS.ifNo X_1.here hx rfl (hb hby d22_4) rfl ((if0 _ _).trans (feq ((by decide) : ¬ ((1 : Int32) = (0 : Int32)))).1)) ?_
    show own_Go p e below _ (T_1.setTop (mkF m 7 #[.val (.ref a1), .val (.int (Int32.ofNat i))] []))
    refine own_aloadN X_1 hx (hb hby d22_7) (q := 8) rfl rfl rfl ?_
    obtain ⟨T_2, X_2, e_2, st_2⟩ := getF X_1 hx hZ hown (host := "") (Or.inl (own_w hw 68 rfl)) Via.refl e_1 V1 (g := (mkF m 8 #[.val (.ref a1), .val (.int (Int32.ofNat i))] [(.ref a1)])) rfl rfl (hb hby d22_8)
    refine own_via st_2 ?_
    show own_Go p e below _ (T_2.setTop (mkF m 11 #[.val (.ref a1), .val (.int (Int32.ofNat i))] [(.ref t1)]))
    refine own_iloadN X_2 hx (hb hby d22_11) (q := 12) rfl rfl ?_
    obtain ⟨_, _, ⟨T_3, L_3, k_3, n_3⟩, -, X_3, ⟨Lc_3, hQ_3, l_3, y_3, z_3⟩, st_3⟩ := Jvm.LawKit.callS X_2 hx (y := (⟨"java/lang/StringLatin1", "charAt", "([BI)C"⟩ : MethodName)) hown (mvT hZ (own_w hw 205 rfl)) (mvT hZ (own_w hw 206 rfl)) (mvT hZ (own_w hw 200 rfl)) (mvT hZ (own_w hw 207 rfl)) (by decide) (backOf (W := 0) (rmlca l Z a0 hw [] t1 k1 cs i sf h0 n0 Z0 O0 Ssf hsf B1 hl hbd hal hi) hZ (own_w hw 207 rfl) (own_w hw 200 rfl) (by decide) (by decide)) (g := (mkF m 12 #[.val (.ref a1), .val (.int (Int32.ofNat i))] [(.int (Int32.ofNat i)), (.ref t1)])) rfl (by rw [hml]; rfl) (argsL := [(.ref t1), (.int (Int32.ofNat i))]) (rest := []) (lenOf pd_7 rfl) rfl (by show 2 * 0 + _ ≤ _; exact Nat.le_of_eq rfl) (hb hby d22_12) (fun _ _ => ⟨rfl, e_2, (by decide : 0 + 0 ≤ _), (by decide : 0 + 0 ≤ _)⟩)
    dsimp only [Pt.U, Pt.locs, Pt.cells, Pt.slots] at X_3 l_3 y_3 z_3 st_3 hQ_3
    subst l_3 y_3 z_3
    obtain ⟨rfl, Nq_3, e_3⟩ := hQ_3
    have N_3 := Fr.app N_1 Nq_3
    refine own_via st_3 ?_
    show own_Go p e below _ (T_3.setTop (mkF m 15 #[.val (.ref a1), .val (.int (Int32.ofNat i))] [(.int (cs.getD i 0))]))
    exact own_retv X_3 Bd.notSynchronized hx Bd.returns (own_narV (own_mb hbd hi)) (Or.inl ⟨rfl, (by simp), _, rfl⟩) (hb hby d22_15) (by decide) (by decide) (by rw [e_3]; exact ⟨rfl, N_3, rfl⟩)
  · refine own_aloadN X0 hx (hb hby d22_0) (q := 1) rfl rfl rfl ?_
    obtain ⟨cq_4, kq_4, q_4a, q_4b, q_4c⟩ := isOf hZ e0 E1
    obtain ⟨_, _, ⟨T_4, L_4, k_4, n_4⟩, -, X_4, ⟨Lc_4, hQ_4, l_4, y_4, z_4⟩, st_4⟩ := X0.virtualBack hx (y := (⟨"java/lang/String", "isLatin1", "()Z"⟩ : MethodName)) (z := (⟨"java/lang/String", "isLatin1", "()Z"⟩ : MethodName)) hown (mvT hZ (own_w hw 108 rfl)) (mvT hZ (own_w hw 109 rfl)) (notFace_of_selects (args := #[]) (mvT hZ (own_w hw 111 rfl))) (mvT hZ (own_w hw 111 rfl)) (mvT hZ (own_w hw 110 rfl)) (by decide) (backOf (W := 0) (rmlatin1 l Z a0 hw [] a1 cz h0 n0 Z0 O0 Scs hcs C1) hZ (own_w hw 112 rfl) (own_w hw 24 rfl) (by decide) (by decide)) q_4a q_4c (g := (mkF m 1 #[.val (.ref a1), .val (.int (Int32.ofNat i))] [(.ref a1)])) rfl (by rw [hml]; rfl) (Steps.refl _) (argsL := []) (rest := []) (lenOf pd_16 rfl) rfl (by show 2 * 0 + _ ≤ _; exact Nat.le_of_eq rfl) (hb hby d22_1) (fun _ _ => ⟨rfl, e0, (by decide : 0 + 0 ≤ _), (by decide : 0 + 0 ≤ _)⟩)
    dsimp only [Pt.U, Pt.locs, Pt.cells, Pt.slots] at X_4 l_4 y_4 z_4 st_4 hQ_4
    subst l_4 y_4 z_4
    obtain ⟨rfl, Nq_4, e_4⟩ := hQ_4
    have N_4 := Fr.app N0 Nq_4
    refine own_via (fun _ k => st_4.trans k) ?_
    show own_Go p e below _ (T_4.setTop (mkF m 4 #[.val (.ref a1), .val (.int (Int32.ofNat i))] [(.int (0 : Int32))]))
    refine own_via (fun _ => XS.ifYes X_4.here hx rfl (pc0 := 4) (pc' := 16) rfl (hb hby d22_4) rfl ((if0 _ _).trans (teq ((by decide) : (0 : Int32) = (0 : Int32))).1) (by decide) (by decide)) ?_
    show own_Go p e below _ (T_4.setTop (mkF m 16 #[.val (.ref a1), .val (.int (Int32.ofNat i))] []))
    refine own_aloadN X_4 hx (hb hby d22_16) (q := 17) rfl rfl rfl ?_
    obtain ⟨T_5, X_5, e_5, st_5⟩ := getF X_4 hx hZ hown (host := "") (Or.inl (own_w hw 68 rfl)) Via.refl e_4 V1 (g := (mkF m 17 #[.val (.ref a1), .val (.int (Int32.ofNat i))] [(.ref a1)])) rfl rfl (hb hby d22_17)
    refine own_via st_5 ?_
    show own_Go p e below _ (T_5.setTop (mkF m 20 #[.val (.ref a1), .val (.int (Int32.ofNat i))] [(.ref t1)]))
    refine own_iloadN X_5 hx (hb hby d22_20) (q := 21) rfl rfl ?_
    obtain ⟨_, _, ⟨T_6, L_6, k_6, n_6⟩, -, X_6, ⟨Lc_6, hQ_6, l_6, y_6, z_6⟩, st_6⟩ := Jvm.LawKit.callS X_5 hx (y := (⟨"java/lang/StringUTF16", "charAt", "([BI)C"⟩ : MethodName)) hown (mvT hZ (own_w hw 113 rfl)) (mvT hZ (own_w hw 114 rfl)) (mvT hZ (own_w hw 38 rfl)) (mvT hZ (own_w hw 115 rfl)) (by decide) (backOf (W := 0) (rmuca l Z a0 hw [] t1 k1 cs i sf h0 n0 Z0 O0 Sad Shi Slo Ssf hsf B1 hl hbd hi) hZ (own_w hw 115 rfl) (own_w hw 38 rfl) (by decide) (by decide)) (g := (mkF m 21 #[.val (.ref a1), .val (.int (Int32.ofNat i))] [(.int (Int32.ofNat i)), (.ref t1)])) rfl (by rw [hml]; rfl) (argsL := [(.ref t1), (.int (Int32.ofNat i))]) (rest := []) (lenOf pd_7 rfl) rfl (by show 2 * 0 + _ ≤ _; exact Nat.le_of_eq rfl) (hb hby d22_21) (fun _ _ => ⟨rfl, e_5, (by decide : 0 + 0 ≤ _), (by decide : 0 + 0 ≤ _)⟩)
    dsimp only [Pt.U, Pt.locs, Pt.cells, Pt.slots] at X_6 l_6 y_6 z_6 st_6 hQ_6
    subst l_6 y_6 z_6
    obtain ⟨rfl, Nq_6, e_6⟩ := hQ_6
    have N_6 := Fr.app N_4 Nq_6
    refine own_via st_6 ?_
    show own_Go p e below _ (T_6.setTop (mkF m 24 #[.val (.ref a1), .val (.int (Int32.ofNat i))] [(.int (cs.getD i 0))]))
    exact own_retv X_6 Bd.notSynchronized hx Bd.returns (own_narV (own_mb hbd hi)) (Or.inl ⟨rfl, (by simp), _, rfl⟩) (hb hby d22_24) (by decide) (by decide) (by rw [e_6]; exact ⟨rfl, N_6, rfl⟩)
theorem d21_0 : decode jdk_89_method_36_code 0 = .ok (.aload_n 0, 1) := by decide +kernel
theorem d21_1 : decode jdk_89_method_36_code 1 = .ok (.invokeinterface 92 1, 5) := by decide +kernel
theorem d21_6 : decode jdk_89_method_36_code 6 = .ok (.istore_n 3, 1) := by decide +kernel
theorem d21_7 : decode jdk_89_method_36_code 7 = .ok (.iload_n 1, 1) := by decide +kernel
theorem d21_8 : decode jdk_89_method_36_code 8 = .ok (.ifCond .lt 8, 3) := by decide +kernel
theorem d21_11 : decode jdk_89_method_36_code 11 = .ok (.iload_n 1, 1) := by decide +kernel
theorem d21_12 : decode jdk_89_method_36_code 12 = .ok (.iload_n 3, 1) := by decide +kernel
theorem d21_13 : decode jdk_89_method_36_code 13 = .ok (.if_icmp .le 11, 3) := by decide +kernel
theorem d21_24 : decode jdk_89_method_36_code 24 = .ok (.iload_n 1, 1) := by decide +kernel
theorem d21_25 : decode jdk_89_method_36_code 25 = .ok (.istore 4, 2) := by decide +kernel
theorem d21_27 : decode jdk_89_method_36_code 27 = .ok (.iload_n 2, 1) := by decide +kernel
theorem d21_28 : decode jdk_89_method_36_code 28 = .ok (.ifCond .lt 81, 3) := by decide +kernel
theorem d21_31 : decode jdk_89_method_36_code 31 = .ok (.iconst 0, 1) := by decide +kernel
theorem d21_32 : decode jdk_89_method_36_code 32 = .ok (.istore 5, 2) := by decide +kernel
theorem d21_34 : decode jdk_89_method_36_code 34 = .ok (.iload 4, 2) := by decide +kernel
theorem d21_36 : decode jdk_89_method_36_code 36 = .ok (.iload_n 3, 1) := by decide +kernel
theorem d21_37 : decode jdk_89_method_36_code 37 = .ok (.if_icmp .ge 55, 3) := by decide +kernel
theorem d21_40 : decode jdk_89_method_36_code 40 = .ok (.iload 5, 2) := by decide +kernel
theorem d21_42 : decode jdk_89_method_36_code 42 = .ok (.iload_n 2, 1) := by decide +kernel
theorem d21_43 : decode jdk_89_method_36_code 43 = .ok (.if_icmp .ge 49, 3) := by decide +kernel
theorem d21_46 : decode jdk_89_method_36_code 46 = .ok (.aload_n 0, 1) := by decide +kernel
theorem d21_47 : decode jdk_89_method_36_code 47 = .ok (.iload 4, 2) := by decide +kernel
theorem d21_49 : decode jdk_89_method_36_code 49 = .ok (.iinc 4 1, 3) := by decide +kernel
theorem d21_52 : decode jdk_89_method_36_code 52 = .ok (.invokeinterface 86 2, 5) := by decide +kernel
theorem d21_57 : decode jdk_89_method_36_code 57 = .ok (.invokestatic 78, 3) := by decide +kernel
theorem d21_60 : decode jdk_89_method_36_code 60 = .ok (.ifCond .eq 26, 3) := by decide +kernel
theorem d21_63 : decode jdk_89_method_36_code 63 = .ok (.iload 4, 2) := by decide +kernel
theorem d21_65 : decode jdk_89_method_36_code 65 = .ok (.iload_n 3, 1) := by decide +kernel
theorem d21_66 : decode jdk_89_method_36_code 66 = .ok (.if_icmp .ge 20, 3) := by decide +kernel
theorem d21_69 : decode jdk_89_method_36_code 69 = .ok (.aload_n 0, 1) := by decide +kernel
theorem d21_70 : decode jdk_89_method_36_code 70 = .ok (.iload 4, 2) := by decide +kernel
theorem d21_72 : decode jdk_89_method_36_code 72 = .ok (.invokeinterface 86 2, 5) := by decide +kernel
theorem d21_77 : decode jdk_89_method_36_code 77 = .ok (.invokestatic 82, 3) := by decide +kernel
theorem d21_80 : decode jdk_89_method_36_code 80 = .ok (.ifCond .eq 6, 3) := by decide +kernel
theorem d21_83 : decode jdk_89_method_36_code 83 = .ok (.iinc 4 1, 3) := by decide +kernel
theorem d21_86 : decode jdk_89_method_36_code 86 = .ok (.iinc 5 1, 3) := by decide +kernel
theorem d21_89 : decode jdk_89_method_36_code 89 = .ok (.goto (-55), 3) := by decide +kernel
theorem d21_92 : decode jdk_89_method_36_code 92 = .ok (.iload 5, 2) := by decide +kernel
theorem d21_94 : decode jdk_89_method_36_code 94 = .ok (.iload_n 2, 1) := by decide +kernel
theorem d21_95 : decode jdk_89_method_36_code 95 = .ok (.if_icmp .ge 11, 3) := by decide +kernel
theorem d21_106 : decode jdk_89_method_36_code 106 = .ok (.goto 76, 3) := by decide +kernel
theorem d21_182 : decode jdk_89_method_36_code 182 = .ok (.iload 4, 2) := by decide +kernel
theorem d21_184 : decode jdk_89_method_36_code 184 = .ok (.ireturn, 1) := by decide +kernel
theorem pd_17 : parseMethodDescriptor "()I" = some ⟨[], some .int⟩ := by decide +kernel
theorem pd_18 : parseMethodDescriptor "(I)C" = some ⟨[.int], some .char⟩ := by decide +kernel
theorem ef_obcC (m : MethodId) (a1 : Addr) (i : Nat) : entryFrame m #[(.ref a1), (.int (Int32.ofNat i)), (.int (1 : Int32))] 6 = mkF m 0 #[.val (.ref a1), .val (.int (Int32.ofNat i)), .val (.int (1 : Int32)), .unset, .unset, .unset] [] := by first | (simp [entryFrame, mkF, argsToLocals, Value.category]; done) | rfl
def QobcC (Z : State) (a1 : Addr) (cs : List Int32) (i : Nat) (cz : Int32) (sf : Value) (h0 : Heap) (n0 : Nat) (v : Option Value) (h : Heap) (L : List Loc) : Prop := v = some (.int (Int32.ofNat (own_nx cs i))) ∧ Fr n0 L ∧ h = h0
theorem rmobcC (l : Launch) (Z : State) (a0 : Array Value) (hw : ∀ d ∈ tables_1, d.before a0 Z = true) (ws : List Jvm.Cond) (a1 : Addr) (cs : List Int32) (i : Nat) (cz : Int32) (sf : Value) (h0 : Heap) (n0 : Nat) (Z0 : n0 ≤ h0.size) (O0 : Old Z n0 h0) (Sad : Sta Z Z.heap "java/lang/StringUTF16" "$assertionsDisabled" "Z" (.int (1 : Int32))) (Shi : Sta Z Z.heap "java/lang/StringUTF16" "HI_BYTE_SHIFT" "I" (.int (0 : Int32))) (Slo : Sta Z Z.heap "java/lang/StringUTF16" "LO_BYTE_SHIFT" "I" (.int (8 : Int32))) (Scs : Sta Z Z.heap "java/lang/String" "COMPACT_STRINGS" "Z" (.int cz)) (hcs : ¬ (cz = (0 : Int32))) (Ssf : Sta Z Z.heap "jdk/internal/util/Preconditions" "SIOOBE_FORMATTER" "Ljava/util/function/BiFunction;" sf) (hsf : sf.isRef = true) (S1 : own_S Z h0 a1 cs) (E1 : Exa Z h0 a1 "java/lang/String") (hl : cs.length ≤ 103) (hi : i < cs.length) :
    MetFree l (⟨"java/lang/Character", "offsetByCodePoints", "(Ljava/lang/CharSequence;II)I"⟩ : MethodName) (head1 (Jvm.Cond.code (⟨"java/lang/Character", "offsetByCodePoints", "(Ljava/lang/CharSequence;II)I"⟩ : MethodName) jdk_89_method_36_code 6 (some .int) :: ws) ({ frames := 5, cells := 0, slots := 0, locals := 70 } : Room)) (fun a U => a = #[(.ref a1), (.int (Int32.ofNat i)), (.int (1 : Int32))] ∧ Z.Warmed39 U.vm ∧ U.heap = h0) (fun _ _ _ _ _ => True) (fun _ U o U' => ∃ v L, o = .returned v ∧ QobcC Z a1 cs i cz sf h0 n0 v U'.heap L ∧ FrameEnd U o U' L ({ frames := 5, cells := 0, slots := 0, locals := 70 } : Room).cells ({ frames := 5, cells := 0, slots := 0, locals := 70 } : Room).slots) := by
  refine MetFree.of_bodySF (plainFor_of_name pn_java_lang_Character) hisR ?_
  intro p e s m args below meth c s₁ Bd hml0 hP hK
  obtain ⟨rfl, hZ, hH0⟩ := hP
  have hx := Bd.exec
  have hby := Bd.bytes
  have hml : c.maxLocals = 6 := hml0
  have hown : s.vm.findClass "java/lang/Character" = some m.cls := findClass_of_methodNamed Bd.named
  have hnm := (name_of_methodNamed Bd.named Bd.method).1
  have X0 : Stand p l e ({ frames := 5, cells := 0, slots := 0, locals := 70 } : Room) s m #[(.ref a1), (.int (Int32.ofNat i)), (.int (1 : Int32))] below meth c s₁ [] 0 0 := Stand.of_body Bd
  have e0 : s₁.heap = h0 := by rw [← hH0, Bd.state]; rfl
  have N0 := Fr.nil n0
  refine own_cast (ef_obcC m a1 i) ?_
  show own_Go p e below (fun o U' => ∃ v L, o = .returned v ∧ QobcC Z a1 cs i cz sf h0 n0 v U'.heap L ∧ FrameEnd s o U' L ({ frames := 5, cells := 0, slots := 0, locals := 70 } : Room).cells ({ frames := 5, cells := 0, slots := 0, locals := 70 } : Room).slots) (s₁.setTop (mkF m 0 #[.val (.ref a1), .val (.int (Int32.ofNat i)), .val (.int (1 : Int32)), .unset, .unset, .unset] []))
  refine own_aloadN X0 hx (hb hby d21_0) (q := 1) rfl rfl rfl ?_
  obtain ⟨cq_1, kq_1, q_1a, q_1b, q_1c⟩ := isOf hZ e0 E1
  obtain ⟨_, _, ⟨T_1, L_1, k_1, n_1⟩, -, X_1, ⟨Lc_1, hQ_1, l_1, y_1, z_1⟩, st_1⟩ := X0.interfaceBack hx (xi := (⟨"java/lang/CharSequence", "length", "()I"⟩ : MethodName)) (y := (⟨"java/lang/String", "length", "()I"⟩ : MethodName)) hown (mvT hZ (own_w hw 93 rfl)) (mvT hZ (own_w hw 94 rfl)) (mvT hZ (own_w hw 95 rfl)) (mvT hZ (own_w hw 96 rfl)) (mvT hZ (own_w hw 76 rfl)) (mvT hZ (own_w hw 97 rfl)) (mvT hZ (own_w hw 98 rfl)) (mvT hZ (own_w hw 99 rfl)) (by decide) (backOf (W := 0) (rmlength l Z a0 hw [] a1 cs cz h0 n0 Z0 O0 Scs hcs S1) hZ (own_w hw 78 rfl) (own_w hw 24 rfl) (by decide) (by decide)) q_1a q_1b q_1c (g := (mkF m 1 #[.val (.ref a1), .val (.int (Int32.ofNat i)), .val (.int (1 : Int32)), .unset, .unset, .unset] [(.ref a1)])) rfl (by rw [hml]; rfl) (Steps.refl _) (argsL := []) (rest := []) (lenOf pd_17 rfl) rfl (by show 2 * 0 + _ ≤ _; exact Nat.le_of_eq rfl) (hb hby d21_1) (fun _ _ => ⟨rfl, e0, (by decide : 0 + 0 ≤ _), (by decide : 0 + 0 ≤ _)⟩)
  dsimp only [Pt.U, Pt.locs, Pt.cells, Pt.slots] at X_1 l_1 y_1 z_1 st_1 hQ_1
  subst l_1 y_1 z_1
  obtain ⟨rfl, Nq_1, e_1⟩ := hQ_1
  have N_1 := Fr.app N0 Nq_1
  refine own_via (fun _ k => st_1.trans k) ?_
  show own_Go p e below _ (T_1.setTop (mkF m 6 #[.val (.ref a1), .val (.int (Int32.ofNat i)), .val (.int (1 : Int32)), .unset, .unset, .unset] [(.int (Int32.ofNat cs.length))]))
  refine own_via (fun _ => XS.istoreN X_1.here hx rfl (hb hby d21_6) rfl (l' := #[.val (.ref a1), .val (.int (Int32.ofNat i)), .val (.int (1 : Int32)), .val (.int (Int32.ofNat cs.length)), .unset, .unset]) rfl) ?_
  show own_Go p e below _ (T_1.setTop (mkF m 7 #[.val (.ref a1), .val (.int (Int32.ofNat i)), .val (.int (1 : Int32)), .val (.int (Int32.ofNat cs.length)), .unset, .unset] []))
  refine own_iloadN X_1 hx (hb hby d21_7) (q := 8) rfl rfl ?_
  refine own_via (fun _ => XS.ifNo X_1.here hx rfl (hb hby d21_8) rfl ((if0 _ _).trans (flt (own_nn (by omega) : ¬ ((Int32.ofNat i) < (0 : Int32)))).1)) ?_
  show own_Go p e below _ (T_1.setTop (mkF m 11 #[.val (.ref a1), .val (.int (Int32.ofNat i)), .val (.int (1 : Int32)), .val (.int (Int32.ofNat cs.length)), .unset, .unset] []))
  refine own_iloadN X_1 hx (hb hby d21_11) (q := 12) rfl rfl ?_
  refine own_iloadN X_1 hx (hb hby d21_12) (q := 13) rfl rfl ?_
  refine own_via (fun _ => XS.icmpYes X_1.here hx rfl (pc0 := 13) (pc' := 24) rfl (hb hby d21_13) rfl (flt (fun q => absurd ((own_lt (by omega) (by omega)).mp q) (by omega) : ¬ ((Int32.ofNat cs.length) < (Int32.ofNat i)))).2.2.2 (by decide) (by decide)) ?_
  show own_Go p e below _ (T_1.setTop (mkF m 24 #[.val (.ref a1), .val (.int (Int32.ofNat i)), .val (.int (1 : Int32)), .val (.int (Int32.ofNat cs.length)), .unset, .unset] []))
  refine own_iloadN X_1 hx (hb hby d21_24) (q := 25) rfl rfl ?_
  refine own_via (fun _ => XS.istore X_1.here hx rfl (hb hby d21_25) rfl (l' := #[.val (.ref a1), .val (.int (Int32.ofNat i)), .val (.int (1 : Int32)), .val (.int (Int32.ofNat cs.length)), .val (.int (Int32.ofNat i)), .unset]) rfl) ?_
  show own_Go p e below _ (T_1.setTop (mkF m 27 #[.val (.ref a1), .val (.int (Int32.ofNat i)), .val (.int (1 : Int32)), .val (.int (Int32.ofNat cs.length)), .val (.int (Int32.ofNat i)), .unset] []))
  refine own_iloadN X_1 hx (hb hby d21_27) (q := 28) rfl rfl ?_
  refine own_via (fun _ => XS.ifNo X_1.here hx rfl (hb hby d21_28) rfl ((if0 _ _).trans (flt ((by decide) : ¬ ((1 : Int32) < (0 : Int32)))).1)) ?_
  show own_Go p e below _ (T_1.setTop (mkF m 31 #[.val (.ref a1), .val (.int (Int32.ofNat i)), .val (.int (1 : Int32)), .val (.int (Int32.ofNat cs.length)), .val (.int (Int32.ofNat i)), .unset] []))
  refine own_iconst X_1 hx (hb hby d21_31) (q := 32) (z := (0 : Int32)) rfl rfl ?_
  refine own_via (fun _ => XS.istore X_1.here hx rfl (hb hby d21_32) rfl (l' := #[.val (.ref a1), .val (.int (Int32.ofNat i)), .val (.int (1 : Int32)), .val (.int (Int32.ofNat cs.length)), .val (.int (Int32.ofNat i)), .val (.int (0 : Int32))]) rfl) ?_
  show own_Go p e below _ (T_1.setTop (mkF m 34 #[.val (.ref a1), .val (.int (Int32.ofNat i)), .val (.int (1 : Int32)), .val (.int (Int32.ofNat cs.length)), .val (.int (Int32.ofNat i)), .val (.int (0 : Int32))] []))
  refine own_iload X_1 hx (hb hby d21_34) (q := 36) rfl rfl ?_
  refine own_iloadN X_1 hx (hb hby d21_36) (q := 37) rfl rfl ?_
  refine own_via (fun _ => XS.icmpNo X_1.here hx rfl (hb hby d21_37) rfl (tlt ((own_lt (by omega) (by omega)).mpr hi : (Int32.ofNat i) < (Int32.ofNat cs.length))).2.1) ?_
  show own_Go p e below _ (T_1.setTop (mkF m 40 #[.val (.ref a1), .val (.int (Int32.ofNat i)), .val (.int (1 : Int32)), .val (.int (Int32.ofNat cs.length)), .val (.int (Int32.ofNat i)), .val (.int (0 : Int32))] []))
  refine own_iload X_1 hx (hb hby d21_40) (q := 42) rfl rfl ?_
  refine own_iloadN X_1 hx (hb hby d21_42) (q := 43) rfl rfl ?_
  refine own_via (fun _ => XS.icmpNo X_1.here hx rfl (hb hby d21_43) rfl (tlt ((by decide) : (0 : Int32) < (1 : Int32))).2.1) ?_
  show own_Go p e below _ (T_1.setTop (mkF m 46 #[.val (.ref a1), .val (.int (Int32.ofNat i)), .val (.int (1 : Int32)), .val (.int (Int32.ofNat cs.length)), .val (.int (Int32.ofNat i)), .val (.int (0 : Int32))] []))
  refine own_aloadN X_1 hx (hb hby d21_46) (q := 47) rfl rfl rfl ?_
  refine own_iload X_1 hx (hb hby d21_47) (q := 49) rfl rfl ?_
  refine own_via (fun _ => XS.iinc X_1.here hx rfl (hb hby d21_49) rfl (l' := #[.val (.ref a1), .val (.int (Int32.ofNat i)), .val (.int (1 : Int32)), .val (.int (Int32.ofNat cs.length)), .val (.int ((Int32.ofNat i) + (1 : Int32))), .val (.int (0 : Int32))]) rfl) ?_
  show own_Go p e below _ (T_1.setTop (mkF m 52 #[.val (.ref a1), .val (.int (Int32.ofNat i)), .val (.int (1 : Int32)), .val (.int (Int32.ofNat cs.length)), .val (.int ((Int32.ofNat i) + (1 : Int32))), .val (.int (0 : Int32))] [(.int (Int32.ofNat i)), (.ref a1)]))
  rw [own_succ]
  show own_Go p e below _ (T_1.setTop (mkF m 52 #[.val (.ref a1), .val (.int (Int32.ofNat i)), .val (.int (1 : Int32)), .val (.int (Int32.ofNat cs.length)), .val (.int (Int32.ofNat (i + 1))), .val (.int (0 : Int32))] [(.int (Int32.ofNat i)), (.ref a1)]))
  obtain ⟨cq_2, kq_2, q_2a, q_2b, q_2c⟩ := isOf hZ e_1 E1
  obtain ⟨_, _, ⟨T_2, L_2, k_2, n_2⟩, -, X_2, ⟨Lc_2, hQ_2, l_2, y_2, z_2⟩, st_2⟩ := X_1.interfaceBack hx (xi := (⟨"java/lang/CharSequence", "charAt", "(I)C"⟩ : MethodName)) (y := (⟨"java/lang/String", "charAt", "(I)C"⟩ : MethodName)) hown (mvT hZ (own_w hw 100 rfl)) (mvT hZ (own_w hw 101 rfl)) (mvT hZ (own_w hw 102 rfl)) (mvT hZ (own_w hw 103 rfl)) (mvT hZ (own_w hw 104 rfl)) (mvT hZ (own_w hw 105 rfl)) (mvT hZ (own_w hw 106 rfl)) (mvT hZ (own_w hw 99 rfl)) (by decide) (backOf (W := 0) (rmcharAt l Z a0 hw [] a1 cs i cz sf h0 n0 Z0 O0 Sad Shi Slo Scs hcs Ssf hsf S1 hi) hZ (own_w hw 107 rfl) (own_w hw 24 rfl) (by decide) (by decide)) q_2a q_2b q_2c (g := (mkF m 52 #[.val (.ref a1), .val (.int (Int32.ofNat i)), .val (.int (1 : Int32)), .val (.int (Int32.ofNat cs.length)), .val (.int (Int32.ofNat (i + 1))), .val (.int (0 : Int32))] [(.int (Int32.ofNat i)), (.ref a1)])) rfl (by rw [hml]; rfl) (Steps.refl _) (argsL := [(.int (Int32.ofNat i))]) (rest := []) (lenOf pd_18 rfl) rfl (by show 2 * 0 + _ ≤ _; exact Nat.le_of_eq rfl) (hb hby d21_52) (fun _ _ => ⟨rfl, e_1, (by decide : 0 + 0 ≤ _), (by decide : 0 + 0 ≤ _)⟩)
  dsimp only [Pt.U, Pt.locs, Pt.cells, Pt.slots] at X_2 l_2 y_2 z_2 st_2 hQ_2
  subst l_2 y_2 z_2
  obtain ⟨rfl, Nq_2, e_2⟩ := hQ_2
  have N_2 := Fr.app N_1 Nq_2
  refine own_via (fun _ k => st_2.trans k) ?_
  show own_Go p e below _ (T_2.setTop (mkF m 57 #[.val (.ref a1), .val (.int (Int32.ofNat i)), .val (.int (1 : Int32)), .val (.int (Int32.ofNat cs.length)), .val (.int (Int32.ofNat (i + 1))), .val (.int (0 : Int32))] [(.int (cs.getD i 0))]))
  obtain ⟨_, _, ⟨T_3, L_3, k_3, n_3⟩, -, X_3, ⟨Lc_3, hQ_3, l_3, y_3, z_3⟩, st_3⟩ := Jvm.LawKit.callS X_2 hx (y := (⟨"java/lang/Character", "isHighSurrogate", "(C)Z"⟩ : MethodName)) hown (mvT hZ (own_w hw 130 rfl)) (mvT hZ (own_w hw 131 rfl)) (mvT hZ (own_w hw 91 rfl)) (mvT hZ (own_w hw 132 rfl)) (by decide) (backOf (W := 0) (rmisHi l Z a0 hw [] (cs.getD i 0) h0 n0 Z0 ) hZ (own_w hw 132 rfl) (own_w hw 91 rfl) (by decide) (by decide)) (g := (mkF m 57 #[.val (.ref a1), .val (.int (Int32.ofNat i)), .val (.int (1 : Int32)), .val (.int (Int32.ofNat cs.length)), .val (.int (Int32.ofNat (i + 1))), .val (.int (0 : Int32))] [(.int (cs.getD i 0))])) rfl (by rw [hml]; rfl) (argsL := [(.int (cs.getD i 0))]) (rest := []) (lenOf pd_0 rfl) rfl (by show 2 * 0 + _ ≤ _; exact Nat.le_of_eq rfl) (hb hby d21_57) (fun _ _ => ⟨rfl, e_2, (by decide : 0 + 0 ≤ _), (by decide : 0 + 0 ≤ _)⟩)
  dsimp only [Pt.U, Pt.locs, Pt.cells, Pt.slots] at X_3 l_3 y_3 z_3 st_3 hQ_3
  subst l_3 y_3 z_3
  obtain ⟨i_4, rfl, Nq_3, e_3, q_3_0⟩ := hQ_3
  have N_3 := Fr.app N_2 Nq_3
  refine own_via st_3 ?_
  show own_Go p e below _ (T_3.setTop (mkF m 60 #[.val (.ref a1), .val (.int (Int32.ofNat i)), .val (.int (1 : Int32)), .val (.int (Int32.ofNat cs.length)), .val (.int (Int32.ofNat (i + 1))), .val (.int (0 : Int32))] [(.int i_4)]))
  have kj_5 : ∀ (T_6 : State) (L_7 : List Loc) (x : Nat) (hx1 : x = own_nx cs i) (X_9 : Stand p l e ({ frames := 5, cells := 0, slots := 0, locals := 70 } : Room) s m #[(.ref a1), (.int (Int32.ofNat i)), (.int (1 : Int32))] below meth c T_6 L_7 0 0) (e_9 : T_6.heap = h0) (N_9 : Fr n0 L_7), own_Go p e below (fun o U' => ∃ v L, o = .returned v ∧ QobcC Z a1 cs i cz sf h0 n0 v U'.heap L ∧ FrameEnd s o U' L ({ frames := 5, cells := 0, slots := 0, locals := 70 } : Room).cells ({ frames := 5, cells := 0, slots := 0, locals := 70 } : Room).slots) (T_6.setTop (mkF m 86 #[.val (.ref a1), .val (.int (Int32.ofNat i)), .val (.int (1 : Int32)), .val (.int (Int32.ofNat cs.length)), .val (.int (Int32.ofNat x)), .val (.int (0 : Int32))] [])) := by
    intro T_6 L_7 x hx1 X_9 e_9 N_9
    have hxb : x ≤ cs.length := by rw [hx1]; exact own_nxle (Nat.le_of_lt hi)
    refine own_via (fun _ => XS.iinc X_9.here hx rfl (hb hby d21_86) rfl (l' := #[.val (.ref a1), .val (.int (Int32.ofNat i)), .val (.int (1 : Int32)), .val (.int (Int32.ofNat cs.length)), .val (.int (Int32.ofNat x)), .val (.int (1 : Int32))]) rfl) ?_
    show own_Go p e below _ (T_6.setTop (mkF m 89 #[.val (.ref a1), .val (.int (Int32.ofNat i)), .val (.int (1 : Int32)), .val (.int (Int32.ofNat cs.length)), .val (.int (Int32.ofNat x)), .val (.int (1 : Int32))] []))
    refine own_via (fun _ => XS.goto X_9.here hx rfl (pc0 := 89) (pc' := 34) rfl (hb hby d21_89) (by decide) (by decide)) ?_
    show own_Go p e below _ (T_6.setTop (mkF m 34 #[.val (.ref a1), .val (.int (Int32.ofNat i)), .val (.int (1 : Int32)), .val (.int (Int32.ofNat cs.length)), .val (.int (Int32.ofNat x)), .val (.int (1 : Int32))] []))
    refine own_iload X_9 hx (hb hby d21_34) (q := 36) rfl rfl ?_
    refine own_iloadN X_9 hx (hb hby d21_36) (q := 37) rfl rfl ?_
    by_cases hx2 : x < cs.length
    · refine own_via (fun _ => XS.icmpNo X_9.here hx rfl (hb hby d21_37) rfl (tlt ((own_lt (i := x) (j := cs.length) (by omega) (by omega)).mpr hx2 : (Int32.ofNat x) < (Int32.ofNat cs.length))).2.1) ?_
      show own_Go p e below _ (T_6.setTop (mkF m 40 #[.val (.ref a1), .val (.int (Int32.ofNat i)), .val (.int (1 : Int32)), .val (.int (Int32.ofNat cs.length)), .val (.int (Int32.ofNat x)), .val (.int (1 : Int32))] []))
      refine own_iload X_9 hx (hb hby d21_40) (q := 42) rfl rfl ?_
      refine own_iloadN X_9 hx (hb hby d21_42) (q := 43) rfl rfl ?_
      refine own_via (fun _ => XS.icmpYes X_9.here hx rfl (pc0 := 43) (pc' := 92) rfl (hb hby d21_43) rfl (flt ((by decide) : ¬ ((1 : Int32) < (1 : Int32)))).2.1 (by decide) (by decide)) ?_
      show own_Go p e below _ (T_6.setTop (mkF m 92 #[.val (.ref a1), .val (.int (Int32.ofNat i)), .val (.int (1 : Int32)), .val (.int (Int32.ofNat cs.length)), .val (.int (Int32.ofNat x)), .val (.int (1 : Int32))] []))
      refine own_iload X_9 hx (hb hby d21_92) (q := 94) rfl rfl ?_
      refine own_iloadN X_9 hx (hb hby d21_94) (q := 95) rfl rfl ?_
      refine own_via (fun _ => XS.icmpYes X_9.here hx rfl (pc0 := 95) (pc' := 106) rfl (hb hby d21_95) rfl (flt ((by decide) : ¬ ((1 : Int32) < (1 : Int32)))).2.1 (by decide) (by decide)) ?_
      show own_Go p e below _ (T_6.setTop (mkF m 106 #[.val (.ref a1), .val (.int (Int32.ofNat i)), .val (.int (1 : Int32)), .val (.int (Int32.ofNat cs.length)), .val (.int (Int32.ofNat x)), .val (.int (1 : Int32))] []))
      refine own_via (fun _ => XS.goto X_9.here hx rfl (pc0 := 106) (pc' := 182) rfl (hb hby d21_106) (by decide) (by decide)) ?_
      show own_Go p e below _ (T_6.setTop (mkF m 182 #[.val (.ref a1), .val (.int (Int32.ofNat i)), .val (.int (1 : Int32)), .val (.int (Int32.ofNat cs.length)), .val (.int (Int32.ofNat x)), .val (.int (1 : Int32))] []))
      refine own_iload X_9 hx (hb hby d21_182) (q := 184) rfl rfl ?_
      refine own_cast (g' := (mkF m 184 #[.val (.ref a1), .val (.int (Int32.ofNat i)), .val (.int (1 : Int32)), .val (.int (Int32.ofNat cs.length)), .val (.int (Int32.ofNat x)), .val (.int (1 : Int32))] [(.int (Int32.ofNat (own_nx cs i)))])) (by rw [hx1]) ?_
      exact own_retv X_9 Bd.notSynchronized hx Bd.returns rfl (Or.inl ⟨rfl, (by simp), _, rfl⟩) (hb hby d21_184) (by decide) (by decide) (by rw [e_9]; exact ⟨rfl, N_9, rfl⟩)
    · refine own_via (fun _ => XS.icmpYes X_9.here hx rfl (pc0 := 37) (pc' := 92) rfl (hb hby d21_37) rfl (flt (fun q => hx2 ((own_lt (i := x) (j := cs.length) (by omega) (by omega)).mp q) : ¬ ((Int32.ofNat x) < (Int32.ofNat cs.length)))).2.1 (by decide) (by decide)) ?_
      show own_Go p e below _ (T_6.setTop (mkF m 92 #[.val (.ref a1), .val (.int (Int32.ofNat i)), .val (.int (1 : Int32)), .val (.int (Int32.ofNat cs.length)), .val (.int (Int32.ofNat x)), .val (.int (1 : Int32))] []))
      refine own_iload X_9 hx (hb hby d21_92) (q := 94) rfl rfl ?_
      refine own_iloadN X_9 hx (hb hby d21_94) (q := 95) rfl rfl ?_
      refine own_via (fun _ => XS.icmpYes X_9.here hx rfl (pc0 := 95) (pc' := 106) rfl (hb hby d21_95) rfl (flt ((by decide) : ¬ ((1 : Int32) < (1 : Int32)))).2.1 (by decide) (by decide)) ?_
      show own_Go p e below _ (T_6.setTop (mkF m 106 #[.val (.ref a1), .val (.int (Int32.ofNat i)), .val (.int (1 : Int32)), .val (.int (Int32.ofNat cs.length)), .val (.int (Int32.ofNat x)), .val (.int (1 : Int32))] []))
      refine own_via (fun _ => XS.goto X_9.here hx rfl (pc0 := 106) (pc' := 182) rfl (hb hby d21_106) (by decide) (by decide)) ?_
      show own_Go p e below _ (T_6.setTop (mkF m 182 #[.val (.ref a1), .val (.int (Int32.ofNat i)), .val (.int (1 : Int32)), .val (.int (Int32.ofNat cs.length)), .val (.int (Int32.ofNat x)), .val (.int (1 : Int32))] []))
      refine own_iload X_9 hx (hb hby d21_182) (q := 184) rfl rfl ?_
      refine own_cast (g' := (mkF m 184 #[.val (.ref a1), .val (.int (Int32.ofNat i)), .val (.int (1 : Int32)), .val (.int (Int32.ofNat cs.length)), .val (.int (Int32.ofNat x)), .val (.int (1 : Int32))] [(.int (Int32.ofNat (own_nx cs i)))])) (by rw [hx1]) ?_
      exact own_retv X_9 Bd.notSynchronized hx Bd.returns rfl (Or.inl ⟨rfl, (by simp), _, rfl⟩) (hb hby d21_184) (by decide) (by decide) (by rw [e_9]; exact ⟨rfl, N_9, rfl⟩)
  by_cases hhi : own_hi (cs.getD i 0)
  · refine own_via (fun _ => XS.ifNo X_3.here hx rfl (hb hby d21_60) rfl ((if0 _ _).trans (feq (fun q => absurd (q.symm.trans (q_3_0.trans (if_pos hhi))) (by decide) : ¬ (i_4 = (0 : Int32)))).1)) ?_
    show own_Go p e below _ (T_3.setTop (mkF m 63 #[.val (.ref a1), .val (.int (Int32.ofNat i)), .val (.int (1 : Int32)), .val (.int (Int32.ofNat cs.length)), .val (.int (Int32.ofNat (i + 1))), .val (.int (0 : Int32))] []))
    refine own_iload X_3 hx (hb hby d21_63) (q := 65) rfl rfl ?_
    refine own_iloadN X_3 hx (hb hby d21_65) (q := 66) rfl rfl ?_
    by_cases hl2 : i + 1 < cs.length
    · refine own_via (fun _ => XS.icmpNo X_3.here hx rfl (hb hby d21_66) rfl (tlt ((own_lt (i := i + 1) (j := cs.length) (by omega) (by omega)).mpr hl2 : (Int32.ofNat (i + 1)) < (Int32.ofNat cs.length))).2.1) ?_
      show own_Go p e below _ (T_3.setTop (mkF m 69 #[.val (.ref a1), .val (.int (Int32.ofNat i)), .val (.int (1 : Int32)), .val (.int (Int32.ofNat cs.length)), .val (.int (Int32.ofNat (i + 1))), .val (.int (0 : Int32))] []))
      refine own_aloadN X_3 hx (hb hby d21_69) (q := 70) rfl rfl rfl ?_
      refine own_iload X_3 hx (hb hby d21_70) (q := 72) rfl rfl ?_
      obtain ⟨cq_10, kq_10, q_10a, q_10b, q_10c⟩ := isOf hZ e_3 E1
      obtain ⟨_, _, ⟨T_10, L_10, k_10, n_10⟩, -, X_10, ⟨Lc_10, hQ_10, l_10, y_10, z_10⟩, st_10⟩ := X_3.interfaceBack hx (xi := (⟨"java/lang/CharSequence", "charAt", "(I)C"⟩ : MethodName)) (y := (⟨"java/lang/String", "charAt", "(I)C"⟩ : MethodName)) hown (mvT hZ (own_w hw 100 rfl)) (mvT hZ (own_w hw 101 rfl)) (mvT hZ (own_w hw 102 rfl)) (mvT hZ (own_w hw 103 rfl)) (mvT hZ (own_w hw 104 rfl)) (mvT hZ (own_w hw 105 rfl)) (mvT hZ (own_w hw 106 rfl)) (mvT hZ (own_w hw 99 rfl)) (by decide) (backOf (W := 0) (rmcharAt l Z a0 hw [] a1 cs (i + 1) cz sf h0 n0 Z0 O0 Sad Shi Slo Scs hcs Ssf hsf S1 hl2) hZ (own_w hw 107 rfl) (own_w hw 24 rfl) (by decide) (by decide)) q_10a q_10b q_10c (g := (mkF m 72 #[.val (.ref a1), .val (.int (Int32.ofNat i)), .val (.int (1 : Int32)), .val (.int (Int32.ofNat cs.length)), .val (.int (Int32.ofNat (i + 1))), .val (.int (0 : Int32))] [(.int (Int32.ofNat (i + 1))), (.ref a1)])) rfl (by rw [hml]; rfl) (Steps.refl _) (argsL := [(.int (Int32.ofNat (i + 1)))]) (rest := []) (lenOf pd_18 rfl) rfl (by show 2 * 0 + _ ≤ _; exact Nat.le_of_eq rfl) (hb hby d21_72) (fun _ _ => ⟨rfl, e_3, (by decide : 0 + 0 ≤ _), (by decide : 0 + 0 ≤ _)⟩)
      dsimp only [Pt.U, Pt.locs, Pt.cells, Pt.slots] at X_10 l_10 y_10 z_10 st_10 hQ_10
      subst l_10 y_10 z_10
      obtain ⟨rfl, Nq_10, e_10⟩ := hQ_10
      have N_10 := Fr.app N_3 Nq_10
      refine own_via (fun _ k => st_10.trans k) ?_
      show own_Go p e below _ (T_10.setTop (mkF m 77 #[.val (.ref a1), .val (.int (Int32.ofNat i)), .val (.int (1 : Int32)), .val (.int (Int32.ofNat cs.length)), .val (.int (Int32.ofNat (i + 1))), .val (.int (0 : Int32))] [(.int (cs.getD (i + 1) 0))]))
      obtain ⟨_, _, ⟨T_11, L_11, k_11, n_11⟩, -, X_11, ⟨Lc_11, hQ_11, l_11, y_11, z_11⟩, st_11⟩ := Jvm.LawKit.callS X_10 hx (y := (⟨"java/lang/Character", "isLowSurrogate", "(C)Z"⟩ : MethodName)) hown (mvT hZ (own_w hw 135 rfl)) (mvT hZ (own_w hw 136 rfl)) (mvT hZ (own_w hw 91 rfl)) (mvT hZ (own_w hw 137 rfl)) (by decide) (backOf (W := 0) (rmisLo l Z a0 hw [] (cs.getD (i + 1) 0) h0 n0 Z0 ) hZ (own_w hw 137 rfl) (own_w hw 91 rfl) (by decide) (by decide)) (g := (mkF m 77 #[.val (.ref a1), .val (.int (Int32.ofNat i)), .val (.int (1 : Int32)), .val (.int (Int32.ofNat cs.length)), .val (.int (Int32.ofNat (i + 1))), .val (.int (0 : Int32))] [(.int (cs.getD (i + 1) 0))])) rfl (by rw [hml]; rfl) (argsL := [(.int (cs.getD (i + 1) 0))]) (rest := []) (lenOf pd_0 rfl) rfl (by show 2 * 0 + _ ≤ _; exact Nat.le_of_eq rfl) (hb hby d21_77) (fun _ _ => ⟨rfl, e_10, (by decide : 0 + 0 ≤ _), (by decide : 0 + 0 ≤ _)⟩)
      dsimp only [Pt.U, Pt.locs, Pt.cells, Pt.slots] at X_11 l_11 y_11 z_11 st_11 hQ_11
      subst l_11 y_11 z_11
      obtain ⟨i_12, rfl, Nq_11, e_11, q_11_0⟩ := hQ_11
      have N_11 := Fr.app N_10 Nq_11
      refine own_via st_11 ?_
      show own_Go p e below _ (T_11.setTop (mkF m 80 #[.val (.ref a1), .val (.int (Int32.ofNat i)), .val (.int (1 : Int32)), .val (.int (Int32.ofNat cs.length)), .val (.int (Int32.ofNat (i + 1))), .val (.int (0 : Int32))] [(.int i_12)]))
      by_cases hlo : own_lo (cs.getD (i + 1) 0)
      · refine own_via (fun _ => XS.ifNo X_11.here hx rfl (hb hby d21_80) rfl ((if0 _ _).trans (feq (fun q => absurd (q.symm.trans (q_11_0.trans (if_pos hlo))) (by decide) : ¬ (i_12 = (0 : Int32)))).1)) ?_
        show own_Go p e below _ (T_11.setTop (mkF m 83 #[.val (.ref a1), .val (.int (Int32.ofNat i)), .val (.int (1 : Int32)), .val (.int (Int32.ofNat cs.length)), .val (.int (Int32.ofNat (i + 1))), .val (.int (0 : Int32))] []))
        refine own_via (fun _ => XS.iinc X_11.here hx rfl (hb hby d21_83) rfl (l' := #[.val (.ref a1), .val (.int (Int32.ofNat i)), .val (.int (1 : Int32)), .val (.int (Int32.ofNat cs.length)), .val (.int ((Int32.ofNat (i + 1)) + (1 : Int32))), .val (.int (0 : Int32))]) rfl) ?_
        show own_Go p e below _ (T_11.setTop (mkF m 86 #[.val (.ref a1), .val (.int (Int32.ofNat i)), .val (.int (1 : Int32)), .val (.int (Int32.ofNat cs.length)), .val (.int ((Int32.ofNat (i + 1)) + (1 : Int32))), .val (.int (0 : Int32))] []))
        rw [own_succ]
        show own_Go p e below _ (T_11.setTop (mkF m 86 #[.val (.ref a1), .val (.int (Int32.ofNat i)), .val (.int (1 : Int32)), .val (.int (Int32.ofNat cs.length)), .val (.int (Int32.ofNat (i + 1 + 1))), .val (.int (0 : Int32))] []))
        exact kj_5 _ _ (i + 1 + 1) ((own_nx2 hi hhi hl2 hlo).symm) X_11 e_11 N_11
      · refine own_via (fun _ => XS.ifYes X_11.here hx rfl (pc0 := 80) (pc' := 86) rfl (hb hby d21_80) rfl ((if0 _ _).trans (teq (q_11_0.trans (if_neg hlo) : i_12 = (0 : Int32))).1) (by decide) (by decide)) ?_
        show own_Go p e below _ (T_11.setTop (mkF m 86 #[.val (.ref a1), .val (.int (Int32.ofNat i)), .val (.int (1 : Int32)), .val (.int (Int32.ofNat cs.length)), .val (.int (Int32.ofNat (i + 1))), .val (.int (0 : Int32))] []))
        exact kj_5 _ _ (i + 1) ((own_nx1 hi fun _ _ q => hlo q).symm) X_11 e_11 N_11
    · refine own_via (fun _ => XS.icmpYes X_3.here hx rfl (pc0 := 66) (pc' := 86) rfl (hb hby d21_66) rfl (flt (fun q => hl2 ((own_lt (i := i + 1) (j := cs.length) (by omega) (by omega)).mp q) : ¬ ((Int32.ofNat (i + 1)) < (Int32.ofNat cs.length)))).2.1 (by decide) (by decide)) ?_
      show own_Go p e below _ (T_3.setTop (mkF m 86 #[.val (.ref a1), .val (.int (Int32.ofNat i)), .val (.int (1 : Int32)), .val (.int (Int32.ofNat cs.length)), .val (.int (Int32.ofNat (i + 1))), .val (.int (0 : Int32))] []))
      exact kj_5 _ _ (i + 1) ((own_nx1 hi fun _ q _ => hl2 q).symm) X_3 e_3 N_3
  · refine own_via (fun _ => XS.ifYes X_3.here hx rfl (pc0 := 60) (pc' := 86) rfl (hb hby d21_60) rfl ((if0 _ _).trans (teq (q_3_0.trans (if_neg hhi) : i_4 = (0 : Int32))).1) (by decide) (by decide)) ?_
    show own_Go p e below _ (T_3.setTop (mkF m 86 #[.val (.ref a1), .val (.int (Int32.ofNat i)), .val (.int (1 : Int32)), .val (.int (Int32.ofNat cs.length)), .val (.int (Int32.ofNat (i + 1))), .val (.int (0 : Int32))] []))
    exact kj_5 _ _ (i + 1) ((own_nx1 hi fun q _ _ => hhi q).symm) X_3 e_3 N_3
theorem d20_0 : decode jdk_42_method_60_code 0 = .ok (.aload_n 0, 1) := by decide +kernel
theorem d20_1 : decode jdk_42_method_60_code 1 = .ok (.iload_n 1, 1) := by decide +kernel
theorem d20_2 : decode jdk_42_method_60_code 2 = .ok (.iload_n 2, 1) := by decide +kernel
theorem d20_3 : decode jdk_42_method_60_code 3 = .ok (.invokestatic 517, 3) := by decide +kernel
theorem d20_6 : decode jdk_42_method_60_code 6 = .ok (.ireturn, 1) := by decide +kernel
theorem pd_19 : parseMethodDescriptor "(Ljava/lang/CharSequence;II)I" = some ⟨[(.object "java/lang/CharSequence"), .int, .int], some .int⟩ := by decide +kernel
theorem ef_obcS (m : MethodId) (a1 : Addr) (i : Nat) : entryFrame m #[(.ref a1), (.int (Int32.ofNat i)), (.int (1 : Int32))] 3 = mkF m 0 #[.val (.ref a1), .val (.int (Int32.ofNat i)), .val (.int (1 : Int32))] [] := by first | (simp [entryFrame, mkF, argsToLocals, Value.category]; done) | rfl
def QobcS (Z : State) (a1 : Addr) (cs : List Int32) (i : Nat) (cz : Int32) (sf : Value) (h0 : Heap) (n0 : Nat) (v : Option Value) (h : Heap) (L : List Loc) : Prop := v = some (.int (Int32.ofNat (own_nx cs i))) ∧ Fr n0 L ∧ h = h0
theorem rmobcS (l : Launch) (Z : State) (a0 : Array Value) (hw : ∀ d ∈ tables_1, d.before a0 Z = true) (ws : List Jvm.Cond) (a1 : Addr) (cs : List Int32) (i : Nat) (cz : Int32) (sf : Value) (h0 : Heap) (n0 : Nat) (Z0 : n0 ≤ h0.size) (O0 : Old Z n0 h0) (Sad : Sta Z Z.heap "java/lang/StringUTF16" "$assertionsDisabled" "Z" (.int (1 : Int32))) (Shi : Sta Z Z.heap "java/lang/StringUTF16" "HI_BYTE_SHIFT" "I" (.int (0 : Int32))) (Slo : Sta Z Z.heap "java/lang/StringUTF16" "LO_BYTE_SHIFT" "I" (.int (8 : Int32))) (Scs : Sta Z Z.heap "java/lang/String" "COMPACT_STRINGS" "Z" (.int cz)) (hcs : ¬ (cz = (0 : Int32))) (Ssf : Sta Z Z.heap "jdk/internal/util/Preconditions" "SIOOBE_FORMATTER" "Ljava/util/function/BiFunction;" sf) (hsf : sf.isRef = true) (S1 : own_S Z h0 a1 cs) (E1 : Exa Z h0 a1 "java/lang/String") (hl : cs.length ≤ 103) (hi : i < cs.length) :
    MetFree l (⟨"java/lang/String", "offsetByCodePoints", "(II)I"⟩ : MethodName) (head1 (Jvm.Cond.code (⟨"java/lang/String", "offsetByCodePoints", "(II)I"⟩ : MethodName) jdk_42_method_60_code 3 (some .int) :: ws) ({ frames := 6, cells := 0, slots := 0, locals := 88 } : Room)) (fun a U => a = #[(.ref a1), (.int (Int32.ofNat i)), (.int (1 : Int32))] ∧ Z.Warmed39 U.vm ∧ U.heap = h0) (fun _ _ _ _ _ => True) (fun _ U o U' => ∃ v L, o = .returned v ∧ QobcS Z a1 cs i cz sf h0 n0 v U'.heap L ∧ FrameEnd U o U' L ({ frames := 6, cells := 0, slots := 0, locals := 88 } : Room).cells ({ frames := 6, cells := 0, slots := 0, locals := 88 } : Room).slots) := by
  refine MetFree.of_bodySF (plainFor_of_name pn_java_lang_String) hisR ?_
  intro p e s m args below meth c s₁ Bd hml0 hP hK
  obtain ⟨rfl, hZ, hH0⟩ := hP
  have hx := Bd.exec
  have hby := Bd.bytes
  have hml : c.maxLocals = 3 := hml0
  have hown : s.vm.findClass "java/lang/String" = some m.cls := findClass_of_methodNamed Bd.named
  have hnm := (name_of_methodNamed Bd.named Bd.method).1
  have X0 : Stand p l e ({ frames := 6, cells := 0, slots := 0, locals := 88 } : Room) s m #[(.ref a1), (.int (Int32.ofNat i)), (.int (1 : Int32))] below meth c s₁ [] 0 0 := Stand.of_body Bd
  have e0 : s₁.heap = h0 := by rw [← hH0, Bd.state]; rfl
  have N0 := Fr.nil n0
  refine own_cast (ef_obcS m a1 i) ?_
  show own_Go p e below (fun o U' => ∃ v L, o = .returned v ∧ QobcS Z a1 cs i cz sf h0 n0 v U'.heap L ∧ FrameEnd s o U' L ({ frames := 6, cells := 0, slots := 0, locals := 88 } : Room).cells ({ frames := 6, cells := 0, slots := 0, locals := 88 } : Room).slots) (s₁.setTop (mkF m 0 #[.val (.ref a1), .val (.int (Int32.ofNat i)), .val (.int (1 : Int32))] []))
  refine own_aloadN X0 hx (hb hby d20_0) (q := 1) rfl rfl rfl ?_
  refine own_iloadN X0 hx (hb hby d20_1) (q := 2) rfl rfl ?_
  refine own_iloadN X0 hx (hb hby d20_2) (q := 3) rfl rfl ?_
  obtain ⟨_, _, ⟨T_1, L_1, k_1, n_1⟩, -, X_1, ⟨Lc_1, hQ_1, l_1, y_1, z_1⟩, st_1⟩ := Jvm.LawKit.callS X0 hx (y := (⟨"java/lang/Character", "offsetByCodePoints", "(Ljava/lang/CharSequence;II)I"⟩ : MethodName)) hown (mvT hZ (own_w hw 89 rfl)) (mvT hZ (own_w hw 90 rfl)) (mvT hZ (own_w hw 91 rfl)) (mvT hZ (own_w hw 92 rfl)) (by decide) (backOf (W := 0) (rmobcC l Z a0 hw [] a1 cs i cz sf h0 n0 Z0 O0 Sad Shi Slo Scs hcs Ssf hsf S1 E1 hl hi) hZ (own_w hw 92 rfl) (own_w hw 91 rfl) (by decide) (by decide)) (g := (mkF m 3 #[.val (.ref a1), .val (.int (Int32.ofNat i)), .val (.int (1 : Int32))] [(.int (1 : Int32)), (.int (Int32.ofNat i)), (.ref a1)])) rfl (by rw [hml]; rfl) (argsL := [(.ref a1), (.int (Int32.ofNat i)), (.int (1 : Int32))]) (rest := []) (lenOf pd_19 rfl) rfl (by show 2 * 0 + _ ≤ _; exact Nat.le_of_eq rfl) (hb hby d20_3) (fun _ _ => ⟨rfl, e0, (by decide : 0 + 0 ≤ _), (by decide : 0 + 0 ≤ _)⟩)
  dsimp only [Pt.U, Pt.locs, Pt.cells, Pt.slots] at X_1 l_1 y_1 z_1 st_1 hQ_1
  subst l_1 y_1 z_1
  obtain ⟨rfl, Nq_1, e_1⟩ := hQ_1
  have N_1 := Fr.app N0 Nq_1
  refine own_via st_1 ?_
  show own_Go p e below _ (T_1.setTop (mkF m 6 #[.val (.ref a1), .val (.int (Int32.ofNat i)), .val (.int (1 : Int32))] [(.int (Int32.ofNat (own_nx cs i)))]))
  exact own_retv X_1 Bd.notSynchronized hx Bd.returns rfl (Or.inl ⟨rfl, (by simp), _, rfl⟩) (hb hby d20_6) (by decide) (by decide) (by rw [e_1]; exact ⟨rfl, N_1, rfl⟩)
theorem own_or {n ee : Nat} (hn : n ≤ 103) (he : ee ≤ 103) : ¬ ((Int32.ofNat n ||| (0 : Int32)) ||| Int32.ofNat ee) < (0 : Int32) := by
  have e : (Int32.ofNat n ||| (0 : Int32)) ||| Int32.ofNat ee = Int32.ofNat (n ||| ee) := by
    rw [Int32.or_zero]
    apply Int32.toBitVec_inj.mp
    show BitVec.ofNat 32 n ||| BitVec.ofNat 32 ee = BitVec.ofNat 32 (n ||| ee)
    apply BitVec.eq_of_toNat_eq
    rw [BitVec.toNat_or, BitVec.toNat_ofNat, BitVec.toNat_ofNat, BitVec.toNat_ofNat, Nat.or_mod_two_pow]
  rw [e]
  exact own_nn (Nat.or_lt_two_pow (n := 31) (by omega) (by omega))
theorem own_tk {cs : List Int32} {j ee : Nat} (h : j < ee) : (cs.take ee).getD j 0 = cs.getD j 0 := by
  rw [List.getD_eq_getElem?_getD, List.getD_eq_getElem?_getD, List.getElem?_take, if_pos h]
theorem own_tlen {cs : List Int32} {ee : Nat} (h : ee ≤ cs.length) : (cs.take ee).length = ee := by
  rw [List.length_take]; omega
theorem own_tal {cs : List Int32} {ee : Nat} {P : Int32 → Prop} (h : ∀ c ∈ cs, P c) : ∀ c ∈ cs.take ee, P c := fun c hc => h c (List.mem_of_mem_take hc)
theorem own_Ft {cs : List Int32} {ee k : Nat} (he : ee ≤ cs.length) (hk : k < ee) (h1 : ∀ j, j < k → ¬ (255 : Int32) < cs.getD j 0) (h2 : (255 : Int32) < cs.getD k 0) : own_F (cs.take ee) k := by
  refine ⟨by rw [own_tlen he]; omega, fun j hj => by rw [own_tk (by omega)]; exact h1 j hj, fun _ => by rw [own_tk hk]; exact h2⟩
theorem own_Fe {cs : List Int32} {ee : Nat} (he : ee ≤ cs.length) (h1 : ∀ j, j < ee → ¬ (255 : Int32) < cs.getD j 0) : own_F (cs.take ee) ee := by
  refine ⟨by rw [own_tlen he]; omega, fun j hj => by rw [own_tk hj]; exact h1 j hj, fun q => absurd q (by rw [own_tlen he]; omega)⟩
theorem own_low0t {cs : List Int32} {ee : Nat} (he : ee ≤ cs.length) : List.replicate ee (Value.int 0) = own_low (cs.take ee) 0 := by
  have q := own_low0 (cs.take ee)
  rwa [own_tlen he] at q
theorem own_lowst {cs : List Int32} {ee i : Nat} (he : ee ≤ cs.length) (h : i < ee) : (own_low (cs.take ee) i).set i (.int (lo8 (cs.getD i 0))) = own_low (cs.take ee) (i + 1) := by
  have q := own_lowset (cs := cs.take ee) (i := i) (by rw [own_tlen he]; exact h)
  rwa [own_tk h] at q
theorem own_F0t {cs : List Int32} {ee : Nat} (he : ee ≤ cs.length) (h : own_F (cs.take ee) ee) : CodA (cs.take ee) 0 (Int32.ofNat ee) (own_low (cs.take ee) ee) := by
  have q := own_F0 (cs := cs.take ee) (by rw [own_tlen he]; exact h)
  rwa [own_tlen he] at q
theorem own_F1t {cs : List Int32} {ee k : Nat} (he : ee ≤ cs.length) (h : own_F (cs.take ee) k) (hk : ¬ k = ee) : CodA (cs.take ee) 1 (Int32.ofNat (2 * ee)) ((wideBytes cs).take (2 * ee)) := by
  have q := own_F1 h (by rw [own_tlen he]; exact hk)
  rw [own_tlen he] at q
  rwa [own_widetake]

theorem d42_0 : decode jdk_65_method_131_code 0 = .ok (.iload_n 1, 1) := by decide +kernel
theorem d42_1 : decode jdk_65_method_131_code 1 = .ok (.iload_n 0, 1) := by decide +kernel
theorem d42_2 : decode jdk_65_method_131_code 2 = .ok (.if_icmp .ge 35, 3) := by decide +kernel
theorem d42_37 : decode jdk_65_method_131_code 37 = .ok (.return_, 1) := by decide +kernel
theorem pn_java_util_Arrays : plainName "java/util/Arrays" = true := by first | (simp [plainName, overriddenIn]; done) | decide +kernel
theorem ef_ckl (m : MethodId) (mm : Nat) : entryFrame m #[(.int (0 : Int32)), (.int (Int32.ofNat mm))] 2 = mkF m 0 #[.val (.int (0 : Int32)), .val (.int (Int32.ofNat mm))] [] := by first | (simp [entryFrame, mkF, argsToLocals, Value.category]; done) | rfl
def Qckl (Z : State) (mm : Nat) (h0 : Heap) (n0 : Nat) (v : Option Value) (h : Heap) (L : List Loc) : Prop := v = none ∧ Fr n0 L ∧ h = h0
theorem rmckl (l : Launch) (Z : State) (a0 : Array Value) (hw : ∀ d ∈ tables_1, d.before a0 Z = true) (ws : List Jvm.Cond) (mm : Nat) (h0 : Heap) (n0 : Nat) (Z0 : n0 ≤ h0.size) (hm : mm ≤ 206) :
    MetFree l (⟨"java/util/Arrays", "checkLength", "(II)V"⟩ : MethodName) (head1 (Jvm.Cond.code (⟨"java/util/Arrays", "checkLength", "(II)V"⟩ : MethodName) jdk_65_method_131_code 2 none :: ws) ({ frames := 0, cells := 0, slots := 0, locals := 0 } : Room)) (fun a U => a = #[(.int (0 : Int32)), (.int (Int32.ofNat mm))] ∧ Z.Warmed39 U.vm ∧ U.heap = h0) (fun _ _ _ _ _ => True) (fun _ U o U' => ∃ v L, o = .returned v ∧ Qckl Z mm h0 n0 v U'.heap L ∧ FrameEnd U o U' L ({ frames := 0, cells := 0, slots := 0, locals := 0 } : Room).cells ({ frames := 0, cells := 0, slots := 0, locals := 0 } : Room).slots) := by
  refine MetFree.of_bodySF (plainFor_of_name pn_java_util_Arrays) hisR ?_
  intro p e s m args below meth c s₁ Bd hml0 hP hK
  obtain ⟨rfl, hZ, hH0⟩ := hP
  have hx := Bd.exec
  have hby := Bd.bytes
  have hml : c.maxLocals = 2 := hml0
  have hown : s.vm.findClass "java/util/Arrays" = some m.cls := findClass_of_methodNamed Bd.named
  have hnm := (name_of_methodNamed Bd.named Bd.method).1
  have X0 : Stand p l e ({ frames := 0, cells := 0, slots := 0, locals := 0 } : Room) s m #[(.int (0 : Int32)), (.int (Int32.ofNat mm))] below meth c s₁ [] 0 0 := Stand.of_body Bd
  have e0 : s₁.heap = h0 := by rw [← hH0, Bd.state]; rfl
  have N0 := Fr.nil n0
  refine own_cast (ef_ckl m mm) ?_
  show own_Go p e below (fun o U' => ∃ v L, o = .returned v ∧ Qckl Z mm h0 n0 v U'.heap L ∧ FrameEnd s o U' L ({ frames := 0, cells := 0, slots := 0, locals := 0 } : Room).cells ({ frames := 0, cells := 0, slots := 0, locals := 0 } : Room).slots) (s₁.setTop (mkF m 0 #[.val (.int (0 : Int32)), .val (.int (Int32.ofNat mm))] []))
  refine own_iloadN X0 hx (hb hby d42_0) (q := 1) rfl rfl ?_
  refine own_iloadN X0 hx (hb hby d42_1) (q := 2) rfl rfl ?_
  refine own_via (fun _ => XS.icmpYes X0.here hx rfl (pc0 := 2) (pc' := 37) rfl (hb hby d42_2) rfl (flt (own_nn (by omega) : ¬ ((Int32.ofNat mm) < (0 : Int32)))).2.1 (by decide) (by decide)) ?_
  show own_Go p e below _ (s₁.setTop (mkF m 37 #[.val (.int (0 : Int32)), .val (.int (Int32.ofNat mm))] []))
  exact own_ret0 X0 Bd.notSynchronized hx Bd.returns (hb hby d42_37) (by decide) (by decide) (by rw [e0]; exact ⟨rfl, N0, rfl⟩)
theorem d43_0 : decode jdk_29_method_69_code 0 = .ok (.iload_n 0, 1) := by decide +kernel
theorem d43_1 : decode jdk_29_method_69_code 1 = .ok (.iload_n 1, 1) := by decide +kernel
theorem d43_2 : decode jdk_29_method_69_code 2 = .ok (.if_icmp .gt 7, 3) := by decide +kernel
theorem d43_9 : decode jdk_29_method_69_code 9 = .ok (.iload_n 1, 1) := by decide +kernel
theorem d43_10 : decode jdk_29_method_69_code 10 = .ok (.ireturn, 1) := by decide +kernel
theorem ef_min (m : MethodId) (p1 : Int32) (p2 : Int32) : entryFrame m #[(.int p1), (.int p2)] 2 = mkF m 0 #[.val (.int p1), .val (.int p2)] [] := by first | (simp [entryFrame, mkF, argsToLocals, Value.category]; done) | rfl
def Qmin (Z : State) (p1 : Int32) (p2 : Int32) (h0 : Heap) (n0 : Nat) (v : Option Value) (h : Heap) (L : List Loc) : Prop := v = some (.int p2) ∧ Fr n0 L ∧ h = h0
theorem rmmin (l : Launch) (Z : State) (a0 : Array Value) (hw : ∀ d ∈ tables_1, d.before a0 Z = true) (ws : List Jvm.Cond) (p1 : Int32) (p2 : Int32) (h0 : Heap) (n0 : Nat) (Z0 : n0 ≤ h0.size) (h1 : p2 < p1) :
    MetFree l (⟨"java/lang/Math", "min", "(II)I"⟩ : MethodName) (head1 (Jvm.Cond.code (⟨"java/lang/Math", "min", "(II)I"⟩ : MethodName) jdk_29_method_69_code 2 (some .int) :: ws) ({ frames := 0, cells := 0, slots := 0, locals := 0 } : Room)) (fun a U => a = #[(.int p1), (.int p2)] ∧ Z.Warmed39 U.vm ∧ U.heap = h0) (fun _ _ _ _ _ => True) (fun _ U o U' => ∃ v L, o = .returned v ∧ Qmin Z p1 p2 h0 n0 v U'.heap L ∧ FrameEnd U o U' L ({ frames := 0, cells := 0, slots := 0, locals := 0 } : Room).cells ({ frames := 0, cells := 0, slots := 0, locals := 0 } : Room).slots) := by
  refine MetFree.of_bodySF (Jvm.Free.JP.mathPlain rfl (by decide +kernel)) hisR ?_
  intro p e s m args below meth c s₁ Bd hml0 hP hK
  obtain ⟨rfl, hZ, hH0⟩ := hP
  have hx := Bd.exec
  have hby := Bd.bytes
  have hml : c.maxLocals = 2 := hml0
  have hown : s.vm.findClass "java/lang/Math" = some m.cls := findClass_of_methodNamed Bd.named
  have hnm := (name_of_methodNamed Bd.named Bd.method).1
  have X0 : Stand p l e ({ frames := 0, cells := 0, slots := 0, locals := 0 } : Room) s m #[(.int p1), (.int p2)] below meth c s₁ [] 0 0 := Stand.of_body Bd
  have e0 : s₁.heap = h0 := by rw [← hH0, Bd.state]; rfl
  have N0 := Fr.nil n0
  refine own_cast (ef_min m p1 p2) ?_
  show own_Go p e below (fun o U' => ∃ v L, o = .returned v ∧ Qmin Z p1 p2 h0 n0 v U'.heap L ∧ FrameEnd s o U' L ({ frames := 0, cells := 0, slots := 0, locals := 0 } : Room).cells ({ frames := 0, cells := 0, slots := 0, locals := 0 } : Room).slots) (s₁.setTop (mkF m 0 #[.val (.int p1), .val (.int p2)] []))
  refine own_iloadN X0 hx (hb hby d43_0) (q := 1) rfl rfl ?_
  refine own_iloadN X0 hx (hb hby d43_1) (q := 2) rfl rfl ?_
  refine own_via (fun _ => XS.icmpYes X0.here hx rfl (pc0 := 2) (pc' := 9) rfl (hb hby d43_2) rfl (tlt (h1 : p2 < p1)).2.2.1 (by decide) (by decide)) ?_
  show own_Go p e below _ (s₁.setTop (mkF m 9 #[.val (.int p1), .val (.int p2)] []))
  refine own_iloadN X0 hx (hb hby d43_9) (q := 10) rfl rfl ?_
  exact own_retv X0 Bd.notSynchronized hx Bd.returns rfl (Or.inl ⟨rfl, (by simp), _, rfl⟩) (hb hby d43_10) (by decide) (by decide) (by rw [e0]; exact ⟨rfl, N0, rfl⟩)
theorem d41_0 : decode jdk_65_method_133_code 0 = .ok (.iload_n 1, 1) := by decide +kernel
theorem d41_1 : decode jdk_65_method_133_code 1 = .ok (.iload_n 2, 1) := by decide +kernel
theorem d41_2 : decode jdk_65_method_133_code 2 = .ok (.invokestatic 343, 3) := by decide +kernel
theorem d41_5 : decode jdk_65_method_133_code 5 = .ok (.iload_n 2, 1) := by decide +kernel
theorem d41_6 : decode jdk_65_method_133_code 6 = .ok (.iload_n 1, 1) := by decide +kernel
theorem d41_7 : decode jdk_65_method_133_code 7 = .ok (.isub, 1) := by decide +kernel
theorem d41_8 : decode jdk_65_method_133_code 8 = .ok (.istore_n 3, 1) := by decide +kernel
theorem d41_9 : decode jdk_65_method_133_code 9 = .ok (.iload_n 3, 1) := by decide +kernel
theorem d41_10 : decode jdk_65_method_133_code 10 = .ok (.newarray .byte, 2) := by decide +kernel
theorem d41_12 : decode jdk_65_method_133_code 12 = .ok (.astore 4, 2) := by decide +kernel
theorem d41_14 : decode jdk_65_method_133_code 14 = .ok (.aload_n 0, 1) := by decide +kernel
theorem d41_15 : decode jdk_65_method_133_code 15 = .ok (.iload_n 1, 1) := by decide +kernel
theorem d41_16 : decode jdk_65_method_133_code 16 = .ok (.aload 4, 2) := by decide +kernel
theorem d41_18 : decode jdk_65_method_133_code 18 = .ok (.iconst 0, 1) := by decide +kernel
theorem d41_19 : decode jdk_65_method_133_code 19 = .ok (.aload_n 0, 1) := by decide +kernel
theorem d41_20 : decode jdk_65_method_133_code 20 = .ok (.arraylength, 1) := by decide +kernel
theorem d41_21 : decode jdk_65_method_133_code 21 = .ok (.iload_n 1, 1) := by decide +kernel
theorem d41_22 : decode jdk_65_method_133_code 22 = .ok (.isub, 1) := by decide +kernel
theorem d41_23 : decode jdk_65_method_133_code 23 = .ok (.iload_n 3, 1) := by decide +kernel
theorem d41_24 : decode jdk_65_method_133_code 24 = .ok (.invokestatic 304, 3) := by decide +kernel
theorem d41_27 : decode jdk_65_method_133_code 27 = .ok (.invokestatic 150, 3) := by decide +kernel
theorem d41_30 : decode jdk_65_method_133_code 30 = .ok (.aload 4, 2) := by decide +kernel
theorem d41_32 : decode jdk_65_method_133_code 32 = .ok (.areturn, 1) := by decide +kernel
theorem pd_20 : parseMethodDescriptor "(II)I" = some ⟨[.int, .int], some .int⟩ := by decide +kernel
theorem pd_21 : parseMethodDescriptor "(Ljava/lang/Object;ILjava/lang/Object;II)V" = some ⟨[(.object "java/lang/Object"), .int, (.object "java/lang/Object"), .int, .int], none⟩ := by decide +kernel
theorem ef_corb (m : MethodId) (a1 : Addr) (mm : Nat) : entryFrame m #[(.ref a1), (.int (0 : Int32)), (.int (Int32.ofNat mm))] 5 = mkF m 0 #[.val (.ref a1), .val (.int (0 : Int32)), .val (.int (Int32.ofNat mm)), .unset, .unset] [] := by first | (simp [entryFrame, mkF, argsToLocals, Value.category]; done) | rfl
def Qcorb (Z : State) (a1 : Addr) (k1 : ClassId) (vs : List Value) (n : Nat) (mm : Nat) (h0 : Heap) (n0 : Nat) (v : Option Value) (h : Heap) (L : List Loc) : Prop := ∃ r : Addr, ∃ k : ClassId, v = some (.ref r) ∧ Fr n0 L ∧ Keep h0 h [] ∧ (h0.size ≤ r) ∧ (Arv Z h r k .byte (Int32.ofNat mm) (vs.take mm) (.int (0 : Int32)))
theorem rmcorb (l : Launch) (Z : State) (a0 : Array Value) (hw : ∀ d ∈ tables_1, d.before a0 Z = true) (ws : List Jvm.Cond) (a1 : Addr) (k1 : ClassId) (vs : List Value) (n : Nat) (mm : Nat) (h0 : Heap) (n0 : Nat) (Z0 : n0 ≤ h0.size) (A1 : Arv Z h0 a1 k1 .byte (Int32.ofNat n) vs (.int (0 : Int32))) (hv : vs.length = n) (hm : mm < n) (hn : n ≤ 206) :
    MetFree l (⟨"java/util/Arrays", "copyOfRangeByte", "([BII)[B"⟩ : MethodName) (head1 (Jvm.Cond.code (⟨"java/util/Arrays", "copyOfRangeByte", "([BII)[B"⟩ : MethodName) jdk_65_method_133_code 5 (some (.array .byte)) :: ws) ({ frames := 1, cells := 1, slots := 206, locals := 40 } : Room)) (fun a U => a = #[(.ref a1), (.int (0 : Int32)), (.int (Int32.ofNat mm))] ∧ Z.Warmed39 U.vm ∧ U.heap = h0) (fun _ _ _ _ _ => True) (fun _ U o U' => ∃ v L, o = .returned v ∧ Qcorb Z a1 k1 vs n mm h0 n0 v U'.heap L ∧ FrameEnd U o U' L ({ frames := 1, cells := 1, slots := 206, locals := 40 } : Room).cells ({ frames := 1, cells := 1, slots := 206, locals := 40 } : Room).slots) := by
  refine MetFree.of_bodySF (plainFor_of_name pn_java_util_Arrays) hisR ?_
  intro p e s m args below meth c s₁ Bd hml0 hP hK
  obtain ⟨rfl, hZ, hH0⟩ := hP
  have hx := Bd.exec
  have hby := Bd.bytes
  have hml : c.maxLocals = 5 := hml0
  have hown : s.vm.findClass "java/util/Arrays" = some m.cls := findClass_of_methodNamed Bd.named
  have hnm := (name_of_methodNamed Bd.named Bd.method).1
  have X0 : Stand p l e ({ frames := 1, cells := 1, slots := 206, locals := 40 } : Room) s m #[(.ref a1), (.int (0 : Int32)), (.int (Int32.ofNat mm))] below meth c s₁ [] 0 0 := Stand.of_body Bd
  have e0 : s₁.heap = h0 := by rw [← hH0, Bd.state]; rfl
  have N0 := Fr.nil n0
  refine own_cast (ef_corb m a1 mm) ?_
  show own_Go p e below (fun o U' => ∃ v L, o = .returned v ∧ Qcorb Z a1 k1 vs n mm h0 n0 v U'.heap L ∧ FrameEnd s o U' L ({ frames := 1, cells := 1, slots := 206, locals := 40 } : Room).cells ({ frames := 1, cells := 1, slots := 206, locals := 40 } : Room).slots) (s₁.setTop (mkF m 0 #[.val (.ref a1), .val (.int (0 : Int32)), .val (.int (Int32.ofNat mm)), .unset, .unset] []))
  refine own_iloadN X0 hx (hb hby d41_0) (q := 1) rfl rfl ?_
  refine own_iloadN X0 hx (hb hby d41_1) (q := 2) rfl rfl ?_
  obtain ⟨_, _, ⟨T_1, L_1, k_1, n_1⟩, -, X_1, ⟨Lc_1, hQ_1, l_1, y_1, z_1⟩, st_1⟩ := Jvm.LawKit.callS X0 hx (y := (⟨"java/util/Arrays", "checkLength", "(II)V"⟩ : MethodName)) hown (mvT hZ (own_w hw 176 rfl)) (mvT hZ (own_w hw 177 rfl)) (mvT hZ (own_w hw 171 rfl)) (mvT hZ (own_w hw 178 rfl)) (by decide) (backOf (W := 0) (rmckl l Z a0 hw [] mm h0 n0 Z0 (by omega)) hZ (own_w hw 178 rfl) (own_w hw 171 rfl) (by decide) (by decide)) (g := (mkF m 2 #[.val (.ref a1), .val (.int (0 : Int32)), .val (.int (Int32.ofNat mm)), .unset, .unset] [(.int (Int32.ofNat mm)), (.int (0 : Int32))])) rfl (by rw [hml]; rfl) (argsL := [(.int (0 : Int32)), (.int (Int32.ofNat mm))]) (rest := []) (lenOf pd_14 rfl) rfl (by show 2 * 0 + _ ≤ _; exact Nat.le_of_eq rfl) (hb hby d41_2) (fun _ _ => ⟨rfl, e0, (by decide : 0 + 0 ≤ _), (by decide : 0 + 0 ≤ _)⟩)
  dsimp only [Pt.U, Pt.locs, Pt.cells, Pt.slots] at X_1 l_1 y_1 z_1 st_1 hQ_1
  subst l_1 y_1 z_1
  obtain ⟨rfl, Nq_1, e_1⟩ := hQ_1
  have N_1 := Fr.app N0 Nq_1
  refine own_via st_1 ?_
  show own_Go p e below _ (T_1.setTop (mkF m 5 #[.val (.ref a1), .val (.int (0 : Int32)), .val (.int (Int32.ofNat mm)), .unset, .unset] []))
  refine own_iloadN X_1 hx (hb hby d41_5) (q := 6) rfl rfl ?_
  refine own_iloadN X_1 hx (hb hby d41_6) (q := 7) rfl rfl ?_
  refine own_via (fun _ => XS.isub X_1.here hx rfl (hb hby d41_7) rfl) ?_
  show own_Go p e below _ (T_1.setTop (mkF m 8 #[.val (.ref a1), .val (.int (0 : Int32)), .val (.int (Int32.ofNat mm)), .unset, .unset] [(.int ((Int32.ofNat mm) - (0 : Int32)))]))
  rw [own_sub0]
  show own_Go p e below _ (T_1.setTop (mkF m 8 #[.val (.ref a1), .val (.int (0 : Int32)), .val (.int (Int32.ofNat mm)), .unset, .unset] [(.int (Int32.ofNat mm))]))
  refine own_via (fun _ => XS.istoreN X_1.here hx rfl (hb hby d41_8) rfl (l' := #[.val (.ref a1), .val (.int (0 : Int32)), .val (.int (Int32.ofNat mm)), .val (.int (Int32.ofNat mm)), .unset]) rfl) ?_
  show own_Go p e below _ (T_1.setTop (mkF m 9 #[.val (.ref a1), .val (.int (0 : Int32)), .val (.int (Int32.ofNat mm)), .val (.int (Int32.ofNat mm)), .unset] []))
  refine own_iloadN X_1 hx (hb hby d41_9) (q := 10) rfl rfl ?_
  obtain ⟨T_2, h_2, k_2, X_2, e_2, E_2, A_2, st_2⟩ := newP X_1 hx hZ (own_w hw 40 rfl) e_1 (g := (mkF m 10 #[.val (.ref a1), .val (.int (0 : Int32)), .val (.int (Int32.ofNat mm)), .val (.int (Int32.ofNat mm)), .unset] [(.int (Int32.ofNat mm))])) rfl (hb hby d41_10) rfl (own_nn (by omega)) (cap := 206) (by rw [own_clamp (by omega)]; omega) (by decide) (by decide) (by decide)
  obtain ⟨b_2, g_2⟩ : ∃ z, z = h0.size := ⟨_, rfl⟩
  rw [← g_2] at A_2 st_2
  have V_2 : Arv Z h_2 b_2 k_2 .byte (Int32.ofNat mm) [] (.int (0 : Int32)) := Arv.new A_2 (own_nn (by omega))
  refine own_via st_2 ?_
  show own_Go p e below _ (T_2.setTop (mkF m 12 #[.val (.ref a1), .val (.int (0 : Int32)), .val (.int (Int32.ofNat mm)), .val (.int (Int32.ofNat mm)), .unset] [(.ref b_2)]))
  have V_3 : Arv Z h_2 b_2 k_2 .byte (Int32.ofNat mm) (List.replicate mm (.int (0 : Int32))) (.int (0 : Int32)) := V_2.pad (pad_rep [] (.int (0 : Int32)) mm)
  refine own_via (fun _ => XS.astore X_2.here hx rfl (hb hby d41_12) rfl rfl (l' := #[.val (.ref a1), .val (.int (0 : Int32)), .val (.int (Int32.ofNat mm)), .val (.int (Int32.ofNat mm)), .val (.ref b_2)]) rfl) ?_
  show own_Go p e below _ (T_2.setTop (mkF m 14 #[.val (.ref a1), .val (.int (0 : Int32)), .val (.int (Int32.ofNat mm)), .val (.int (Int32.ofNat mm)), .val (.ref b_2)] []))
  refine own_aloadN X_2 hx (hb hby d41_14) (q := 15) rfl rfl rfl ?_
  refine own_iloadN X_2 hx (hb hby d41_15) (q := 16) rfl rfl ?_
  refine own_aload X_2 hx (hb hby d41_16) (q := 18) rfl rfl rfl ?_
  refine own_iconst X_2 hx (hb hby d41_18) (q := 19) (z := (0 : Int32)) rfl rfl ?_
  refine own_aloadN X_2 hx (hb hby d41_19) (q := 20) rfl rfl rfl ?_
  have K_4 : Keep h0 h_2 [] := (Keep.refl h0 []).ext E_2
  obtain ⟨cl_5, Ar_5, q_5, S_5, M_5, H_5, G_5⟩ := (id (A1.keep K_4 nin0))
  refine own_via (X_2.arraylength hx (by rw [e_2]; exact Ar_5.1) (State.isArrayOf_alike hZ.alike Ar_5.2.1) (g := (mkF m 20 #[.val (.ref a1), .val (.int (0 : Int32)), .val (.int (Int32.ofNat mm)), .val (.int (Int32.ofNat mm)), .val (.ref b_2)] [(.ref a1), (.int (0 : Int32)), (.ref b_2), (.int (0 : Int32)), (.ref a1)])) rfl rfl (hb hby d41_20)) ?_
  rw [len_of S_5 M_5]
  show own_Go p e below _ (T_2.setTop (mkF m 21 #[.val (.ref a1), .val (.int (0 : Int32)), .val (.int (Int32.ofNat mm)), .val (.int (Int32.ofNat mm)), .val (.ref b_2)] [(.int (Int32.ofNat n)), (.int (0 : Int32)), (.ref b_2), (.int (0 : Int32)), (.ref a1)]))
  refine own_iloadN X_2 hx (hb hby d41_21) (q := 22) rfl rfl ?_
  refine own_via (fun _ => XS.isub X_2.here hx rfl (hb hby d41_22) rfl) ?_
  show own_Go p e below _ (T_2.setTop (mkF m 23 #[.val (.ref a1), .val (.int (0 : Int32)), .val (.int (Int32.ofNat mm)), .val (.int (Int32.ofNat mm)), .val (.ref b_2)] [(.int ((Int32.ofNat n) - (0 : Int32))), (.int (0 : Int32)), (.ref b_2), (.int (0 : Int32)), (.ref a1)]))
  rw [own_sub0]
  show own_Go p e below _ (T_2.setTop (mkF m 23 #[.val (.ref a1), .val (.int (0 : Int32)), .val (.int (Int32.ofNat mm)), .val (.int (Int32.ofNat mm)), .val (.ref b_2)] [(.int (Int32.ofNat n)), (.int (0 : Int32)), (.ref b_2), (.int (0 : Int32)), (.ref a1)]))
  refine own_iloadN X_2 hx (hb hby d41_23) (q := 24) rfl rfl ?_
  obtain ⟨_, _, ⟨T_6, L_6, k_6, n_6⟩, -, X_6, ⟨Lc_6, hQ_6, l_6, y_6, z_6⟩, st_6⟩ := Jvm.LawKit.callS X_2 hx (y := (⟨"java/lang/Math", "min", "(II)I"⟩ : MethodName)) hown (mvT hZ (own_w hw 179 rfl)) (mvT hZ (own_w hw 180 rfl)) (mvT hZ (own_w hw 181 rfl)) (mvT hZ (own_w hw 182 rfl)) (by decide) (backOf (W := 4) (rmmin l Z a0 hw [] (Int32.ofNat n) (Int32.ofNat mm) h_2 n0 (Nat.le_trans Z0 K_4.1) ((own_lt (by omega) (by omega)).mpr hm)) hZ (own_w hw 182 rfl) (own_w hw 181 rfl) (by decide) (by decide)) (g := (mkF m 24 #[.val (.ref a1), .val (.int (0 : Int32)), .val (.int (Int32.ofNat mm)), .val (.int (Int32.ofNat mm)), .val (.ref b_2)] [(.int (Int32.ofNat mm)), (.int (Int32.ofNat n)), (.int (0 : Int32)), (.ref b_2), (.int (0 : Int32)), (.ref a1)])) rfl (by rw [hml]; rfl) (argsL := [(.int (Int32.ofNat n)), (.int (Int32.ofNat mm))]) (rest := [(.int (0 : Int32)), (.ref b_2), (.int (0 : Int32)), (.ref a1)]) (lenOf pd_20 rfl) rfl (by show 2 * 0 + _ ≤ _; exact Nat.le_of_eq rfl) (hb hby d41_24) (fun _ _ => ⟨rfl, e_2, (by decide : 1 + 0 ≤ _), (by decide : 206 + 0 ≤ _)⟩)
  dsimp only [Pt.U, Pt.locs, Pt.cells, Pt.slots] at X_6 l_6 y_6 z_6 st_6 hQ_6
  subst l_6 y_6 z_6
  obtain ⟨rfl, Nq_6, e_6⟩ := hQ_6
  have N_6 := Fr.app N_1 Nq_6
  refine own_via st_6 ?_
  show own_Go p e below _ (T_6.setTop (mkF m 27 #[.val (.ref a1), .val (.int (0 : Int32)), .val (.int (Int32.ofNat mm)), .val (.int (Int32.ofNat mm)), .val (.ref b_2)] [(.int (Int32.ofNat mm)), (.int (0 : Int32)), (.ref b_2), (.int (0 : Int32)), (.ref a1)]))
  obtain ⟨T_7, h_7, L_7, X_7, e_7, N_7, K_7q, V_7, st_7⟩ := cpA X_6 hx hZ hown (own_w hw 183 rfl) (own_w hw 186 rfl) (own_w hw 184 rfl) (own_w hw 185 rfl) e_6 (A1.keep K_4 nin0) V_3 (Or.inl ⟨rfl, rfl⟩) (by decide) (by decide) (own_nn (by omega)) (by have c1 := own_clamp (i := mm) (by omega); have c2 := own_clamp (i := n) (by omega); have c3 : (0 : Int32).toNatClampNeg = 0 := (by decide); omega) (by have c1 := own_clamp (i := mm) (by omega); have c2 := own_clamp (i := n) (by omega); have c3 : (0 : Int32).toNatClampNeg = 0 := (by decide); omega) rfl (by have c1 := own_clamp (i := mm) (by omega); have c2 := own_clamp (i := n) (by omega); have c3 : (0 : Int32).toNatClampNeg = 0 := (by decide); rw [List.length_replicate]; omega) N_6 (Nat.le_trans Z0 (Nat.le_of_eq g_2.symm)) (g := (mkF m 27 #[.val (.ref a1), .val (.int (0 : Int32)), .val (.int (Int32.ofNat mm)), .val (.int (Int32.ofNat mm)), .val (.ref b_2)] [(.int (Int32.ofNat mm)), (.int (0 : Int32)), (.ref b_2), (.int (0 : Int32)), (.ref a1)])) rfl (by rw [hml]; rfl) rfl (hb hby d41_27) (by decide) (W := 0) (by show 2 * 0 + _ ≤ _; exact Nat.le_of_eq rfl) (by decide)
  have VV_7 : Arv Z h_7 b_2 k_2 .byte (Int32.ofNat mm) (vs.take mm) (.int (0 : Int32)) := own_cp (vs := vs) (i := mm) (by omega) (by omega) ▸ V_7
  refine own_via st_7 ?_
  show own_Go p e below _ (T_7.setTop (mkF m 30 #[.val (.ref a1), .val (.int (0 : Int32)), .val (.int (Int32.ofNat mm)), .val (.int (Int32.ofNat mm)), .val (.ref b_2)] []))
  refine own_aload X_7 hx (hb hby d41_30) (q := 32) rfl rfl rfl ?_
  have K_8 : Keep h0 h_7 [] := Keep.trans (ws := []) K_4 K_7q (allS (Or.inr (Nat.le_of_eq g_2.symm)) all0)
  exact own_retv X_7 Bd.notSynchronized hx Bd.returns rfl (Or.inr (Or.inr (Or.inr (Or.inr ⟨rfl, rfl, rfl⟩)))) (hb hby d41_32) (by decide) (by decide) (by rw [e_7]; exact ⟨b_2, k_2, rfl, N_7, K_8, (Nat.le_of_eq g_2.symm), VV_7⟩)
theorem d40_0 : decode jdk_65_method_132_code 0 = .ok (.iload_n 1, 1) := by decide +kernel
theorem d40_1 : decode jdk_65_method_132_code 1 = .ok (.ifCond .ne 9, 3) := by decide +kernel
theorem d40_4 : decode jdk_65_method_132_code 4 = .ok (.iload_n 2, 1) := by decide +kernel
theorem d40_5 : decode jdk_65_method_132_code 5 = .ok (.aload_n 0, 1) := by decide +kernel
theorem d40_6 : decode jdk_65_method_132_code 6 = .ok (.arraylength, 1) := by decide +kernel
theorem d40_7 : decode jdk_65_method_132_code 7 = .ok (.if_icmp .eq 10, 3) := by decide +kernel
theorem d40_10 : decode jdk_65_method_132_code 10 = .ok (.aload_n 0, 1) := by decide +kernel
theorem d40_11 : decode jdk_65_method_132_code 11 = .ok (.iload_n 1, 1) := by decide +kernel
theorem d40_12 : decode jdk_65_method_132_code 12 = .ok (.iload_n 2, 1) := by decide +kernel
theorem d40_13 : decode jdk_65_method_132_code 13 = .ok (.invokestatic 339, 3) := by decide +kernel
theorem d40_16 : decode jdk_65_method_132_code 16 = .ok (.areturn, 1) := by decide +kernel
theorem pd_22 : parseMethodDescriptor "([BII)[B" = some ⟨[(.array .byte), .int, .int], some (.array .byte)⟩ := by decide +kernel
theorem ef_cor (m : MethodId) (a1 : Addr) (mm : Nat) : entryFrame m #[(.ref a1), (.int (0 : Int32)), (.int (Int32.ofNat mm))] 3 = mkF m 0 #[.val (.ref a1), .val (.int (0 : Int32)), .val (.int (Int32.ofNat mm))] [] := by first | (simp [entryFrame, mkF, argsToLocals, Value.category]; done) | rfl
def Qcor (Z : State) (a1 : Addr) (k1 : ClassId) (vs : List Value) (n : Nat) (mm : Nat) (h0 : Heap) (n0 : Nat) (v : Option Value) (h : Heap) (L : List Loc) : Prop := ∃ r : Addr, ∃ k : ClassId, v = some (.ref r) ∧ Fr n0 L ∧ Keep h0 h [] ∧ (h0.size ≤ r) ∧ (Arv Z h r k .byte (Int32.ofNat mm) (vs.take mm) (.int (0 : Int32)))
theorem rmcor (l : Launch) (Z : State) (a0 : Array Value) (hw : ∀ d ∈ tables_1, d.before a0 Z = true) (ws : List Jvm.Cond) (a1 : Addr) (k1 : ClassId) (vs : List Value) (n : Nat) (mm : Nat) (h0 : Heap) (n0 : Nat) (Z0 : n0 ≤ h0.size) (A1 : Arv Z h0 a1 k1 .byte (Int32.ofNat n) vs (.int (0 : Int32))) (hv : vs.length = n) (hm : mm < n) (hn : n ≤ 206) :
    MetFree l (⟨"java/util/Arrays", "copyOfRange", "([BII)[B"⟩ : MethodName) (head1 (Jvm.Cond.code (⟨"java/util/Arrays", "copyOfRange", "([BII)[B"⟩ : MethodName) jdk_65_method_132_code 3 (some (.array .byte)) :: ws) ({ frames := 2, cells := 1, slots := 206, locals := 56 } : Room)) (fun a U => a = #[(.ref a1), (.int (0 : Int32)), (.int (Int32.ofNat mm))] ∧ Z.Warmed39 U.vm ∧ U.heap = h0) (fun _ _ _ _ _ => True) (fun _ U o U' => ∃ v L, o = .returned v ∧ Qcor Z a1 k1 vs n mm h0 n0 v U'.heap L ∧ FrameEnd U o U' L ({ frames := 2, cells := 1, slots := 206, locals := 56 } : Room).cells ({ frames := 2, cells := 1, slots := 206, locals := 56 } : Room).slots) := by
  refine MetFree.of_bodySF (plainFor_of_name pn_java_util_Arrays) hisR ?_
  intro p e s m args below meth c s₁ Bd hml0 hP hK
  obtain ⟨rfl, hZ, hH0⟩ := hP
  have hx := Bd.exec
  have hby := Bd.bytes
  have hml : c.maxLocals = 3 := hml0
  have hown : s.vm.findClass "java/util/Arrays" = some m.cls := findClass_of_methodNamed Bd.named
  have hnm := (name_of_methodNamed Bd.named Bd.method).1
  have X0 : Stand p l e ({ frames := 2, cells := 1, slots := 206, locals := 56 } : Room) s m #[(.ref a1), (.int (0 : Int32)), (.int (Int32.ofNat mm))] below meth c s₁ [] 0 0 := Stand.of_body Bd
  have e0 : s₁.heap = h0 := by rw [← hH0, Bd.state]; rfl
  have N0 := Fr.nil n0
  refine own_cast (ef_cor m a1 mm) ?_
  show own_Go p e below (fun o U' => ∃ v L, o = .returned v ∧ Qcor Z a1 k1 vs n mm h0 n0 v U'.heap L ∧ FrameEnd s o U' L ({ frames := 2, cells := 1, slots := 206, locals := 56 } : Room).cells ({ frames := 2, cells := 1, slots := 206, locals := 56 } : Room).slots) (s₁.setTop (mkF m 0 #[.val (.ref a1), .val (.int (0 : Int32)), .val (.int (Int32.ofNat mm))] []))
  refine own_iloadN X0 hx (hb hby d40_0) (q := 1) rfl rfl ?_
  refine own_via (fun _ => XS.ifNo X0.here hx rfl (hb hby d40_1) rfl ((if0 _ _).trans (teq ((by decide) : (0 : Int32) = (0 : Int32))).2)) ?_
  show own_Go p e below _ (s₁.setTop (mkF m 4 #[.val (.ref a1), .val (.int (0 : Int32)), .val (.int (Int32.ofNat mm))] []))
  refine own_iloadN X0 hx (hb hby d40_4) (q := 5) rfl rfl ?_
  refine own_aloadN X0 hx (hb hby d40_5) (q := 6) rfl rfl rfl ?_
  obtain ⟨cl_1, Ar_1, q_1, S_1, M_1, H_1, G_1⟩ := (id A1)
  refine own_via (X0.arraylength hx (by rw [e0]; exact Ar_1.1) (State.isArrayOf_alike hZ.alike Ar_1.2.1) (g := (mkF m 6 #[.val (.ref a1), .val (.int (0 : Int32)), .val (.int (Int32.ofNat mm))] [(.ref a1), (.int (Int32.ofNat mm))])) rfl rfl (hb hby d40_6)) ?_
  rw [len_of S_1 M_1]
  show own_Go p e below _ (s₁.setTop (mkF m 7 #[.val (.ref a1), .val (.int (0 : Int32)), .val (.int (Int32.ofNat mm))] [(.int (Int32.ofNat n)), (.int (Int32.ofNat mm))]))
  refine own_via (fun _ => XS.icmpNo X0.here hx rfl (hb hby d40_7) rfl (feq (fun q => absurd ((own_eq (by omega) (by omega)).mp q) (by omega) : ¬ ((Int32.ofNat mm) = (Int32.ofNat n)))).1) ?_
  show own_Go p e below _ (s₁.setTop (mkF m 10 #[.val (.ref a1), .val (.int (0 : Int32)), .val (.int (Int32.ofNat mm))] []))
  refine own_aloadN X0 hx (hb hby d40_10) (q := 11) rfl rfl rfl ?_
  refine own_iloadN X0 hx (hb hby d40_11) (q := 12) rfl rfl ?_
  refine own_iloadN X0 hx (hb hby d40_12) (q := 13) rfl rfl ?_
  obtain ⟨_, _, ⟨T_2, L_2, k_2, n_2⟩, -, X_2, ⟨Lc_2, hQ_2, l_2, y_2, z_2⟩, st_2⟩ := Jvm.LawKit.callS X0 hx (y := (⟨"java/util/Arrays", "copyOfRangeByte", "([BII)[B"⟩ : MethodName)) hown (mvT hZ (own_w hw 173 rfl)) (mvT hZ (own_w hw 174 rfl)) (mvT hZ (own_w hw 171 rfl)) (mvT hZ (own_w hw 175 rfl)) (by decide) (backOf (W := 0) (rmcorb l Z a0 hw [] a1 k1 vs n mm h0 n0 Z0 A1 hv hm hn) hZ (own_w hw 175 rfl) (own_w hw 171 rfl) (by decide) (by decide)) (g := (mkF m 13 #[.val (.ref a1), .val (.int (0 : Int32)), .val (.int (Int32.ofNat mm))] [(.int (Int32.ofNat mm)), (.int (0 : Int32)), (.ref a1)])) rfl (by rw [hml]; rfl) (argsL := [(.ref a1), (.int (0 : Int32)), (.int (Int32.ofNat mm))]) (rest := []) (lenOf pd_22 rfl) rfl (by show 2 * 0 + _ ≤ _; exact Nat.le_of_eq rfl) (hb hby d40_13) (fun _ _ => ⟨rfl, e0, (by decide : 0 + 1 ≤ _), (by decide : 0 + 206 ≤ _)⟩)
  dsimp only [Pt.U, Pt.locs, Pt.cells, Pt.slots] at X_2 l_2 y_2 z_2 st_2 hQ_2
  subst l_2 y_2 z_2
  obtain ⟨r_3, u_4, rfl, Nq_2, K_2q, q_2_0, q_2_1⟩ := hQ_2
  have N_2 := Fr.app N0 Nq_2
  refine own_via st_2 ?_
  show own_Go p e below _ (T_2.setTop (mkF m 16 #[.val (.ref a1), .val (.int (0 : Int32)), .val (.int (Int32.ofNat mm))] [(.ref r_3)]))
  have K_5 : Keep h0 T_2.heap [] := Keep.trans (ws := []) (Keep.refl h0 []) K_2q all0
  exact own_retv X_2 Bd.notSynchronized hx Bd.returns rfl (Or.inr (Or.inr (Or.inr (Or.inr ⟨rfl, rfl, rfl⟩)))) (hb hby d40_16) (by decide) (by decide) ⟨r_3, u_4, rfl, N_2, K_5, q_2_0, q_2_1⟩
theorem d44_0 : decode jdk_42_method_151_code 0 = .ok (.aload_n 0, 1) := by decide +kernel
theorem d44_1 : decode jdk_42_method_151_code 1 = .ok (.invokespecial 1, 3) := by decide +kernel
theorem d44_4 : decode jdk_42_method_151_code 4 = .ok (.aload_n 0, 1) := by decide +kernel
theorem d44_5 : decode jdk_42_method_151_code 5 = .ok (.aload_n 1, 1) := by decide +kernel
theorem d44_6 : decode jdk_42_method_151_code 6 = .ok (.putfield 9, 3) := by decide +kernel
theorem d44_9 : decode jdk_42_method_151_code 9 = .ok (.aload_n 0, 1) := by decide +kernel
theorem d44_10 : decode jdk_42_method_151_code 10 = .ok (.iload_n 2, 1) := by decide +kernel
theorem d44_11 : decode jdk_42_method_151_code 11 = .ok (.putfield 15, 3) := by decide +kernel
theorem d44_14 : decode jdk_42_method_151_code 14 = .ok (.return_, 1) := by decide +kernel
theorem ef_strBB0 (m : MethodId) (a1 : Addr) (a2 : Addr) : entryFrame m #[(.ref a1), (.ref a2), (.int (0 : Int32))] 3 = mkF m 0 #[.val (.ref a1), .val (.ref a2), .val (.int (0 : Int32))] [] := by first | (simp [entryFrame, mkF, argsToLocals, Value.category]; done) | rfl
def QstrBB0 (Z : State) (a1 : Addr) (a2 : Addr) (h0 : Heap) (n0 : Nat) (v : Option Value) (h : Heap) (L : List Loc) : Prop := v = none ∧ Fr n0 L ∧ Keep h0 h [a1] ∧ (Fld Z h a1 "java/lang/String" "value" "[B" (.ref a2)) ∧ (Fld Z h a1 "java/lang/String" "coder" "B" (.int (0 : Int32)))
theorem rmstrBB0 (l : Launch) (Z : State) (a0 : Array Value) (hw : ∀ d ∈ tables_1, d.before a0 Z = true) (ws : List Jvm.Cond) (a1 : Addr) (a2 : Addr) (h0 : Heap) (n0 : Nat) (Z0 : n0 ≤ h0.size) (E1 : Exa Z h0 a1 "java/lang/String") (F1 : Fld Z h0 a1 "java/lang/String" "value" "[B" .null) (F2 : Fld Z h0 a1 "java/lang/String" "coder" "B" (.int (0 : Int32))) (g1 : n0 ≤ a1) :
    MetFree l (⟨"java/lang/String", "<init>", "([BB)V"⟩ : MethodName) (head1 (Jvm.Cond.code (⟨"java/lang/String", "<init>", "([BB)V"⟩ : MethodName) jdk_42_method_151_code 3 none :: ws) ({ frames := 1, cells := 0, slots := 0, locals := 12 } : Room)) (fun a U => a = #[(.ref a1), (.ref a2), (.int (0 : Int32))] ∧ Z.Warmed39 U.vm ∧ U.heap = h0) (fun _ _ _ _ _ => True) (fun _ U o U' => ∃ v L, o = .returned v ∧ QstrBB0 Z a1 a2 h0 n0 v U'.heap L ∧ FrameEnd U o U' L ({ frames := 1, cells := 0, slots := 0, locals := 12 } : Room).cells ({ frames := 1, cells := 0, slots := 0, locals := 12 } : Room).slots) := by
  refine MetFree.of_bodySF (plainFor_of_name pn_java_lang_String) hisR ?_
  intro p e s m args below meth c s₁ Bd hml0 hP hK
  obtain ⟨rfl, hZ, hH0⟩ := hP
  have hx := Bd.exec
  have hby := Bd.bytes
  have hml : c.maxLocals = 3 := hml0
  have hown : s.vm.findClass "java/lang/String" = some m.cls := findClass_of_methodNamed Bd.named
  have hnm := (name_of_methodNamed Bd.named Bd.method).1
  have X0 : Stand p l e ({ frames := 1, cells := 0, slots := 0, locals := 12 } : Room) s m #[(.ref a1), (.ref a2), (.int (0 : Int32))] below meth c s₁ [] 0 0 := Stand.of_body Bd
  have e0 : s₁.heap = h0 := by rw [← hH0, Bd.state]; rfl
  have N0 := Fr.nil n0
  refine own_cast (ef_strBB0 m a1 a2) ?_
  show own_Go p e below (fun o U' => ∃ v L, o = .returned v ∧ QstrBB0 Z a1 a2 h0 n0 v U'.heap L ∧ FrameEnd s o U' L ({ frames := 1, cells := 0, slots := 0, locals := 12 } : Room).cells ({ frames := 1, cells := 0, slots := 0, locals := 12 } : Room).slots) (s₁.setTop (mkF m 0 #[.val (.ref a1), .val (.ref a2), .val (.int (0 : Int32))] []))
  refine own_aloadN X0 hx (hb hby d44_0) (q := 1) rfl rfl rfl ?_
  obtain ⟨T_1, X_1, e_1, st_1⟩ := initO X0 hx hZ hown (own_w hw 32 rfl) (own_w hw 33 rfl) (own_w hw 34 rfl) e0 (g := (mkF m 1 #[.val (.ref a1), .val (.ref a2), .val (.int (0 : Int32))] [(.ref a1)])) rfl (by rw [hml]; rfl) rfl (hb hby d44_1) (by decide) (W := 0) (by show 2 * 0 + _ ≤ _; exact Nat.le_of_eq rfl) (by decide)
  refine own_via st_1 ?_
  show own_Go p e below _ (T_1.setTop (mkF m 4 #[.val (.ref a1), .val (.ref a2), .val (.int (0 : Int32))] []))
  refine own_aloadN X_1 hx (hb hby d44_4) (q := 5) rfl rfl rfl ?_
  refine own_aloadN X_1 hx (hb hby d44_5) (q := 6) rfl rfl rfl ?_
  obtain ⟨T_2, h_2, X_2, e_2, W_2, st_2⟩ := putF X_1 hx hZ hown (host := "") (Or.inl (own_w hw 68 rfl)) Via.refl e_1 F1 E1 (Or.inr ⟨(own_w hw 69 rfl), rfl, hnm⟩) (own_w hw 23 rfl) (ty := (.array .byte)) (by decide) rfl rfl (g := (mkF m 6 #[.val (.ref a1), .val (.ref a2), .val (.int (0 : Int32))] [(.ref a2), (.ref a1)])) rfl rfl (hb hby d44_6)
  have F_3 : Fld Z h_2 a1 "java/lang/String" "coder" "B" (.int (0 : Int32)) := F2.other W_2 (Or.inr (slot_ne (Or.inr (own_w hw 67 rfl)) (Or.inr (own_w hw 69 rfl)) (by decide) (t := .byte) (t' := (.array .byte)) (by decide) (by decide)))
  have F_4 : Fld Z h_2 a1 "java/lang/String" "value" "[B" (.ref a2) := F1.same W_2
  have N_2 := Fr.snoc X_2 N0 g1
  refine own_via st_2 ?_
  show own_Go p e below _ (T_2.setTop (mkF m 9 #[.val (.ref a1), .val (.ref a2), .val (.int (0 : Int32))] []))
  refine own_aloadN X_2 hx (hb hby d44_9) (q := 10) rfl rfl rfl ?_
  refine own_iloadN X_2 hx (hb hby d44_10) (q := 11) rfl rfl ?_
  have K_5 : Keep h0 h_2 [a1] := Keep.wr (ws := [a1]) (own_keep_mono (Keep.refl h0 []) (by simp)) W_2 (Or.inl (List.mem_of_getElem? (i := 0) rfl))
  obtain ⟨T_6, h_6, X_6, e_6, W_6, st_6⟩ := putFN X_2 hx hZ hown (own_w hw 66 rfl) Via.refl e_2 F_3 (E1.keep K_5) (Or.inr ⟨(own_w hw 67 rfl), rfl, hnm⟩) (own_w hw 23 rfl) (ty := .byte) (v' := (.int (0 : Int32))) (by decide) rfl rfl (g := (mkF m 11 #[.val (.ref a1), .val (.ref a2), .val (.int (0 : Int32))] [(.int (0 : Int32)), (.ref a1)])) rfl rfl (hb hby d44_11)
  have F_7 : Fld Z h_6 a1 "java/lang/String" "value" "[B" (.ref a2) := F_4.other W_6 (Or.inr (slot_ne (Or.inr (own_w hw 69 rfl)) (Or.inr (own_w hw 67 rfl)) (by decide) (t := (.array .byte)) (t' := .byte) (by decide) (by decide)))
  have F_8 : Fld Z h_6 a1 "java/lang/String" "coder" "B" (.int (0 : Int32)) := F_3.same W_6
  have N_6 := Fr.snoc X_6 N_2 g1
  refine own_via st_6 ?_
  show own_Go p e below _ (T_6.setTop (mkF m 14 #[.val (.ref a1), .val (.ref a2), .val (.int (0 : Int32))] []))
  have K_9 : Keep h0 h_6 [a1] := Keep.wr (ws := [a1]) K_5 W_6 (Or.inl (List.mem_of_getElem? (i := 0) rfl))
  exact own_ret0 X_6 Bd.notSynchronized hx Bd.returns (hb hby d44_14) (by decide) (by decide) (by rw [e_6]; exact ⟨rfl, N_6, K_9, F_7, F_8⟩)
theorem ef_strBB1 (m : MethodId) (a1 : Addr) (a2 : Addr) : entryFrame m #[(.ref a1), (.ref a2), (.int (1 : Int32))] 3 = mkF m 0 #[.val (.ref a1), .val (.ref a2), .val (.int (1 : Int32))] [] := by first | (simp [entryFrame, mkF, argsToLocals, Value.category]; done) | rfl
def QstrBB1 (Z : State) (a1 : Addr) (a2 : Addr) (h0 : Heap) (n0 : Nat) (v : Option Value) (h : Heap) (L : List Loc) : Prop := v = none ∧ Fr n0 L ∧ Keep h0 h [a1] ∧ (Fld Z h a1 "java/lang/String" "value" "[B" (.ref a2)) ∧ (Fld Z h a1 "java/lang/String" "coder" "B" (.int (1 : Int32)))
theorem rmstrBB1 (l : Launch) (Z : State) (a0 : Array Value) (hw : ∀ d ∈ tables_1, d.before a0 Z = true) (ws : List Jvm.Cond) (a1 : Addr) (a2 : Addr) (h0 : Heap) (n0 : Nat) (Z0 : n0 ≤ h0.size) (E1 : Exa Z h0 a1 "java/lang/String") (F1 : Fld Z h0 a1 "java/lang/String" "value" "[B" .null) (F2 : Fld Z h0 a1 "java/lang/String" "coder" "B" (.int (0 : Int32))) (g1 : n0 ≤ a1) :
    MetFree l (⟨"java/lang/String", "<init>", "([BB)V"⟩ : MethodName) (head1 (Jvm.Cond.code (⟨"java/lang/String", "<init>", "([BB)V"⟩ : MethodName) jdk_42_method_151_code 3 none :: ws) ({ frames := 1, cells := 0, slots := 0, locals := 12 } : Room)) (fun a U => a = #[(.ref a1), (.ref a2), (.int (1 : Int32))] ∧ Z.Warmed39 U.vm ∧ U.heap = h0) (fun _ _ _ _ _ => True) (fun _ U o U' => ∃ v L, o = .returned v ∧ QstrBB1 Z a1 a2 h0 n0 v U'.heap L ∧ FrameEnd U o U' L ({ frames := 1, cells := 0, slots := 0, locals := 12 } : Room).cells ({ frames := 1, cells := 0, slots := 0, locals := 12 } : Room).slots) := by
  refine MetFree.of_bodySF (plainFor_of_name pn_java_lang_String) hisR ?_
  intro p e s m args below meth c s₁ Bd hml0 hP hK
  obtain ⟨rfl, hZ, hH0⟩ := hP
  have hx := Bd.exec
  have hby := Bd.bytes
  have hml : c.maxLocals = 3 := hml0
  have hown : s.vm.findClass "java/lang/String" = some m.cls := findClass_of_methodNamed Bd.named
  have hnm := (name_of_methodNamed Bd.named Bd.method).1
  have X0 : Stand p l e ({ frames := 1, cells := 0, slots := 0, locals := 12 } : Room) s m #[(.ref a1), (.ref a2), (.int (1 : Int32))] below meth c s₁ [] 0 0 := Stand.of_body Bd
  have e0 : s₁.heap = h0 := by rw [← hH0, Bd.state]; rfl
  have N0 := Fr.nil n0
  refine own_cast (ef_strBB1 m a1 a2) ?_
  show own_Go p e below (fun o U' => ∃ v L, o = .returned v ∧ QstrBB1 Z a1 a2 h0 n0 v U'.heap L ∧ FrameEnd s o U' L ({ frames := 1, cells := 0, slots := 0, locals := 12 } : Room).cells ({ frames := 1, cells := 0, slots := 0, locals := 12 } : Room).slots) (s₁.setTop (mkF m 0 #[.val (.ref a1), .val (.ref a2), .val (.int (1 : Int32))] []))
  refine own_aloadN X0 hx (hb hby d44_0) (q := 1) rfl rfl rfl ?_
  obtain ⟨T_1, X_1, e_1, st_1⟩ := initO X0 hx hZ hown (own_w hw 32 rfl) (own_w hw 33 rfl) (own_w hw 34 rfl) e0 (g := (mkF m 1 #[.val (.ref a1), .val (.ref a2), .val (.int (1 : Int32))] [(.ref a1)])) rfl (by rw [hml]; rfl) rfl (hb hby d44_1) (by decide) (W := 0) (by show 2 * 0 + _ ≤ _; exact Nat.le_of_eq rfl) (by decide)
  refine own_via st_1 ?_
  show own_Go p e below _ (T_1.setTop (mkF m 4 #[.val (.ref a1), .val (.ref a2), .val (.int (1 : Int32))] []))
  refine own_aloadN X_1 hx (hb hby d44_4) (q := 5) rfl rfl rfl ?_
  refine own_aloadN X_1 hx (hb hby d44_5) (q := 6) rfl rfl rfl ?_
  obtain ⟨T_2, h_2, X_2, e_2, W_2, st_2⟩ := putF X_1 hx hZ hown (host := "") (Or.inl (own_w hw 68 rfl)) Via.refl e_1 F1 E1 (Or.inr ⟨(own_w hw 69 rfl), rfl, hnm⟩) (own_w hw 23 rfl) (ty := (.array .byte)) (by decide) rfl rfl (g := (mkF m 6 #[.val (.ref a1), .val (.ref a2), .val (.int (1 : Int32))] [(.ref a2), (.ref a1)])) rfl rfl (hb hby d44_6)
  have F_3 : Fld Z h_2 a1 "java/lang/String" "coder" "B" (.int (0 : Int32)) := F2.other W_2 (Or.inr (slot_ne (Or.inr (own_w hw 67 rfl)) (Or.inr (own_w hw 69 rfl)) (by decide) (t := .byte) (t' := (.array .byte)) (by decide) (by decide)))
  have F_4 : Fld Z h_2 a1 "java/lang/String" "value" "[B" (.ref a2) := F1.same W_2
  have N_2 := Fr.snoc X_2 N0 g1
  refine own_via st_2 ?_
  show own_Go p e below _ (T_2.setTop (mkF m 9 #[.val (.ref a1), .val (.ref a2), .val (.int (1 : Int32))] []))
  refine own_aloadN X_2 hx (hb hby d44_9) (q := 10) rfl rfl rfl ?_
  refine own_iloadN X_2 hx (hb hby d44_10) (q := 11) rfl rfl ?_
  have K_5 : Keep h0 h_2 [a1] := Keep.wr (ws := [a1]) (own_keep_mono (Keep.refl h0 []) (by simp)) W_2 (Or.inl (List.mem_of_getElem? (i := 0) rfl))
  obtain ⟨T_6, h_6, X_6, e_6, W_6, st_6⟩ := putFN X_2 hx hZ hown (own_w hw 66 rfl) Via.refl e_2 F_3 (E1.keep K_5) (Or.inr ⟨(own_w hw 67 rfl), rfl, hnm⟩) (own_w hw 23 rfl) (ty := .byte) (v' := (.int (1 : Int32))) (by decide) rfl rfl (g := (mkF m 11 #[.val (.ref a1), .val (.ref a2), .val (.int (1 : Int32))] [(.int (1 : Int32)), (.ref a1)])) rfl rfl (hb hby d44_11)
  have F_7 : Fld Z h_6 a1 "java/lang/String" "value" "[B" (.ref a2) := F_4.other W_6 (Or.inr (slot_ne (Or.inr (own_w hw 69 rfl)) (Or.inr (own_w hw 67 rfl)) (by decide) (t := (.array .byte)) (t' := .byte) (by decide) (by decide)))
  have F_8 : Fld Z h_6 a1 "java/lang/String" "coder" "B" (.int (1 : Int32)) := F_3.same W_6
  have N_6 := Fr.snoc X_6 N_2 g1
  refine own_via st_6 ?_
  show own_Go p e below _ (T_6.setTop (mkF m 14 #[.val (.ref a1), .val (.ref a2), .val (.int (1 : Int32))] []))
  have K_9 : Keep h0 h_6 [a1] := Keep.wr (ws := [a1]) K_5 W_6 (Or.inl (List.mem_of_getElem? (i := 0) rfl))
  exact own_ret0 X_6 Bd.notSynchronized hx Bd.returns (hb hby d44_14) (by decide) (by decide) (by rw [e_6]; exact ⟨rfl, N_6, K_9, F_7, F_8⟩)
theorem d48_0 : decode jdk_43_method_47_code 0 = .ok (.iload_n 2, 1) := by decide +kernel
theorem d48_1 : decode jdk_43_method_47_code 1 = .ok (.ifCond .ne 6, 3) := by decide +kernel
theorem d48_7 : decode jdk_43_method_47_code 7 = .ok (.new 1, 3) := by decide +kernel
theorem d48_10 : decode jdk_43_method_47_code 10 = .ok (.dup, 1) := by decide +kernel
theorem d48_11 : decode jdk_43_method_47_code 11 = .ok (.aload_n 0, 1) := by decide +kernel
theorem d48_12 : decode jdk_43_method_47_code 12 = .ok (.iload_n 1, 1) := by decide +kernel
theorem d48_13 : decode jdk_43_method_47_code 13 = .ok (.iload_n 1, 1) := by decide +kernel
theorem d48_14 : decode jdk_43_method_47_code 14 = .ok (.iload_n 2, 1) := by decide +kernel
theorem d48_15 : decode jdk_43_method_47_code 15 = .ok (.iadd, 1) := by decide +kernel
theorem d48_16 : decode jdk_43_method_47_code 16 = .ok (.invokestatic 232, 3) := by decide +kernel
theorem d48_19 : decode jdk_43_method_47_code 19 = .ok (.iconst 0, 1) := by decide +kernel
theorem d48_20 : decode jdk_43_method_47_code 20 = .ok (.invokespecial 112, 3) := by decide +kernel
theorem d48_23 : decode jdk_43_method_47_code 23 = .ok (.areturn, 1) := by decide +kernel
theorem pd_23 : parseMethodDescriptor "([BB)V" = some ⟨[(.array .byte), .byte], none⟩ := by decide +kernel
theorem ef_nsL (m : MethodId) (a1 : Addr) (ee : Nat) : entryFrame m #[(.ref a1), (.int (0 : Int32)), (.int (Int32.ofNat ee))] 3 = mkF m 0 #[.val (.ref a1), .val (.int (0 : Int32)), .val (.int (Int32.ofNat ee))] [] := by first | (simp [entryFrame, mkF, argsToLocals, Value.category]; done) | rfl
def QnsL (Z : State) (a1 : Addr) (k1 : ClassId) (cs : List Int32) (ee : Nat) (h0 : Heap) (n0 : Nat) (v : Option Value) (h : Heap) (L : List Loc) : Prop := ∃ r : Addr, v = some (.ref r) ∧ Fr n0 L ∧ Keep h0 h [] ∧ (own_S Z h r (cs.take ee))
theorem rmnsL (l : Launch) (Z : State) (a0 : Array Value) (hw : ∀ d ∈ tables_1, d.before a0 Z = true) (ws : List Jvm.Cond) (a1 : Addr) (k1 : ClassId) (cs : List Int32) (ee : Nat) (h0 : Heap) (n0 : Nat) (Z0 : n0 ≤ h0.size) (A1 : Arv Z h0 a1 k1 .byte (Int32.ofNat cs.length) (cs.map fun c => Value.int (lo8 c)) (.int (0 : Int32))) (hl : cs.length ≤ 103) (hbd : ∀ c ∈ cs, ¬ c < 0 ∧ ¬ (65535 : Int32) < c) (hal : ∀ c ∈ cs, ¬ (255 : Int32) < c) (he : ee < cs.length) (he0 : 0 < ee) :
    MetFree l (⟨"java/lang/StringLatin1", "newString", "([BII)Ljava/lang/String;"⟩ : MethodName) (head1 (Jvm.Cond.code (⟨"java/lang/StringLatin1", "newString", "([BII)Ljava/lang/String;"⟩ : MethodName) jdk_43_method_47_code 3 (some (.object "java/lang/String")) :: ws) ({ frames := 3, cells := 2, slots := 210, locals := 74 } : Room)) (fun a U => a = #[(.ref a1), (.int (0 : Int32)), (.int (Int32.ofNat ee))] ∧ Z.Warmed39 U.vm ∧ U.heap = h0) (fun _ _ _ _ _ => True) (fun _ U o U' => ∃ v L, o = .returned v ∧ QnsL Z a1 k1 cs ee h0 n0 v U'.heap L ∧ FrameEnd U o U' L ({ frames := 3, cells := 2, slots := 210, locals := 74 } : Room).cells ({ frames := 3, cells := 2, slots := 210, locals := 74 } : Room).slots) := by
  refine MetFree.of_bodySF (plainFor_of_name pn_java_lang_StringLatin1) hisR ?_
  intro p e s m args below meth c s₁ Bd hml0 hP hK
  obtain ⟨rfl, hZ, hH0⟩ := hP
  have hx := Bd.exec
  have hby := Bd.bytes
  have hml : c.maxLocals = 3 := hml0
  have hown : s.vm.findClass "java/lang/StringLatin1" = some m.cls := findClass_of_methodNamed Bd.named
  have hnm := (name_of_methodNamed Bd.named Bd.method).1
  have X0 : Stand p l e ({ frames := 3, cells := 2, slots := 210, locals := 74 } : Room) s m #[(.ref a1), (.int (0 : Int32)), (.int (Int32.ofNat ee))] below meth c s₁ [] 0 0 := Stand.of_body Bd
  have e0 : s₁.heap = h0 := by rw [← hH0, Bd.state]; rfl
  have N0 := Fr.nil n0
  refine own_cast (ef_nsL m a1 ee) ?_
  show own_Go p e below (fun o U' => ∃ v L, o = .returned v ∧ QnsL Z a1 k1 cs ee h0 n0 v U'.heap L ∧ FrameEnd s o U' L ({ frames := 3, cells := 2, slots := 210, locals := 74 } : Room).cells ({ frames := 3, cells := 2, slots := 210, locals := 74 } : Room).slots) (s₁.setTop (mkF m 0 #[.val (.ref a1), .val (.int (0 : Int32)), .val (.int (Int32.ofNat ee))] []))
  refine own_iloadN X0 hx (hb hby d48_0) (q := 1) rfl rfl ?_
  refine own_via (fun _ => XS.ifYes X0.here hx rfl (pc0 := 1) (pc' := 7) rfl (hb hby d48_1) rfl ((if0 _ _).trans (feq (fun q => absurd ((own_eq (i := ee) (j := 0) (by omega) (by decide)).mp q) (by omega) : ¬ ((Int32.ofNat ee) = (0 : Int32)))).2) (by decide) (by decide)) ?_
  show own_Go p e below _ (s₁.setTop (mkF m 7 #[.val (.ref a1), .val (.int (0 : Int32)), .val (.int (Int32.ofNat ee))] []))
  obtain ⟨T_1, h_1, X_1, e_1, E_1, A_1, D_1, -, st_1⟩ := newO X0 hx hZ hown (own_w hw 214 rfl) (own_w hw 23 rfl) (own_w hw 24 rfl) e0 (g := (mkF m 7 #[.val (.ref a1), .val (.int (0 : Int32)), .val (.int (Int32.ofNat ee))] [])) rfl (hb hby d48_7) (by decide) (by decide)
  obtain ⟨b_1, g_1⟩ : ∃ z, z = h0.size := ⟨_, rfl⟩
  rw [← g_1] at A_1 D_1 st_1
  have F_2 : Fld Z h_1 b_1 "java/lang/String" "coder" "B" (.int (0 : Int32)) := D_1 (Or.inr (own_w hw 67 rfl)) (ty := .byte) (by decide)
  have F_3 : Fld Z h_1 b_1 "java/lang/String" "value" "[B" .null := D_1 (Or.inr (own_w hw 69 rfl)) (ty := (.array .byte)) (by decide)
  refine own_via st_1 ?_
  show own_Go p e below _ (T_1.setTop (mkF m 10 #[.val (.ref a1), .val (.int (0 : Int32)), .val (.int (Int32.ofNat ee))] [(.ref b_1)]))
  refine own_dup X_1 hx (hb hby d48_10) (q := 11) rfl rfl ?_
  refine own_aloadN X_1 hx (hb hby d48_11) (q := 12) rfl rfl rfl ?_
  refine own_iloadN X_1 hx (hb hby d48_12) (q := 13) rfl rfl ?_
  refine own_iloadN X_1 hx (hb hby d48_13) (q := 14) rfl rfl ?_
  refine own_iloadN X_1 hx (hb hby d48_14) (q := 15) rfl rfl ?_
  refine own_via (fun _ => XS.iadd X_1.here hx rfl (hb hby d48_15) rfl) ?_
  show own_Go p e below _ (T_1.setTop (mkF m 16 #[.val (.ref a1), .val (.int (0 : Int32)), .val (.int (Int32.ofNat ee))] [(.int ((0 : Int32) + (Int32.ofNat ee))), (.int (0 : Int32)), (.ref a1), (.ref b_1), (.ref b_1)]))
  rw [own_add0]
  show own_Go p e below _ (T_1.setTop (mkF m 16 #[.val (.ref a1), .val (.int (0 : Int32)), .val (.int (Int32.ofNat ee))] [(.int (Int32.ofNat ee)), (.int (0 : Int32)), (.ref a1), (.ref b_1), (.ref b_1)]))
  have K_4 : Keep h0 h_1 [] := (Keep.refl h0 []).ext E_1
  obtain ⟨_, _, ⟨T_5, L_5, k_5, n_5⟩, -, X_5, ⟨Lc_5, hQ_5, l_5, y_5, z_5⟩, st_5⟩ := Jvm.LawKit.callS X_1 hx (y := (⟨"java/util/Arrays", "copyOfRange", "([BII)[B"⟩ : MethodName)) hown (mvT hZ (own_w hw 215 rfl)) (mvT hZ (own_w hw 170 rfl)) (mvT hZ (own_w hw 171 rfl)) (mvT hZ (own_w hw 172 rfl)) (by decide) (backOf (W := 2) (rmcor l Z a0 hw [] a1 k1 (cs.map fun c => Value.int (lo8 c)) cs.length ee h_1 n0 (Nat.le_trans Z0 K_4.1) (A1.keep K_4 nin0) (by simp) he (by omega)) hZ (own_w hw 172 rfl) (own_w hw 171 rfl) (by decide) (by decide)) (g := (mkF m 16 #[.val (.ref a1), .val (.int (0 : Int32)), .val (.int (Int32.ofNat ee))] [(.int (Int32.ofNat ee)), (.int (0 : Int32)), (.ref a1), (.ref b_1), (.ref b_1)])) rfl (by rw [hml]; rfl) (argsL := [(.ref a1), (.int (0 : Int32)), (.int (Int32.ofNat ee))]) (rest := [(.ref b_1), (.ref b_1)]) (lenOf pd_22 rfl) rfl (by show 2 * 0 + _ ≤ _; exact Nat.le_of_eq rfl) (hb hby d48_16) (fun _ _ => ⟨rfl, e_1, (by decide : 1 + 1 ≤ _), (by decide : 4 + 206 ≤ _)⟩)
  dsimp only [Pt.U, Pt.locs, Pt.cells, Pt.slots] at X_5 l_5 y_5 z_5 st_5 hQ_5
  subst l_5 y_5 z_5
  obtain ⟨r_6, u_7, rfl, Nq_5, K_5q, q_5_0, q_5_1⟩ := hQ_5
  have N_5 := Fr.app N0 Nq_5
  refine own_via st_5 ?_
  show own_Go p e below _ (T_5.setTop (mkF m 19 #[.val (.ref a1), .val (.int (0 : Int32)), .val (.int (Int32.ofNat ee))] [(.ref r_6), (.ref b_1), (.ref b_1)]))
  refine own_iconst X_5 hx (hb hby d48_19) (q := 20) (z := (0 : Int32)) rfl rfl ?_
  have K_8 : Keep h_1 T_5.heap [] := Keep.trans (ws := []) (Keep.refl h_1 []) K_5q all0
  have K_9 : Keep h0 T_5.heap [] := Keep.trans (ws := []) K_4 K_5q all0
  obtain ⟨_, _, ⟨T_10, L_10, k_10, n_10⟩, -, X_10, ⟨Lc_10, hQ_10, l_10, y_10, z_10⟩, st_10⟩ := X_5.specialBack hx (y := (⟨"java/lang/String", "<init>", "([BB)V"⟩ : MethodName)) rfl hown (mvT hZ (own_w hw 216 rfl)) (mvT hZ (own_w hw 190 rfl)) (mvT hZ (own_w hw 191 rfl)) (by decide) (backOf (W := 1) (rmstrBB0 l Z a0 hw [] b_1 r_6 T_5.heap n0 (Nat.le_trans Z0 K_9.1) (A_1.keep K_8) (F_3.keep K_8 nin0) (F_2.keep K_8 nin0) (Nat.le_trans Z0 (Nat.le_of_eq g_1.symm))) hZ (own_w hw 191 rfl) (own_w hw 24 rfl) (by decide) (by decide)) (g := (mkF m 20 #[.val (.ref a1), .val (.int (0 : Int32)), .val (.int (Int32.ofNat ee))] [(.int (0 : Int32)), (.ref r_6), (.ref b_1), (.ref b_1)])) rfl (by rw [hml]; rfl) (Steps.refl _) (a := b_1) (argsL := [(.ref r_6), (.int (0 : Int32))]) (rest := [(.ref b_1)]) (lenOf pd_23 rfl) rfl (by show 2 * 0 + _ ≤ _; exact Nat.le_of_eq rfl) (hb hby d48_20) (fun _ _ => ⟨rfl, rfl, (by decide : 2 + 0 ≤ _), (by decide : 210 + 0 ≤ _)⟩)
  dsimp only [Pt.U, Pt.locs, Pt.cells, Pt.slots] at X_10 l_10 y_10 z_10 st_10 hQ_10
  subst l_10 y_10 z_10
  obtain ⟨rfl, Nq_10, K_10q, q_10_0, q_10_1⟩ := hQ_10
  have N_10 := Fr.app N_5 Nq_10
  refine own_via (fun _ k => st_10.trans k) ?_
  show own_Go p e below _ (T_10.setTop (mkF m 23 #[.val (.ref a1), .val (.int (0 : Int32)), .val (.int (Int32.ofNat ee))] [(.ref b_1)]))
  have K_11 : Keep h_1 T_10.heap [b_1] := Keep.trans (ws := [b_1]) (own_keep_mono K_8 (by simp)) K_10q (allS (Or.inl (List.mem_of_getElem? (i := 0) rfl)) all0)
  have K_12 : Keep T_5.heap T_10.heap [b_1] := Keep.trans (ws := [b_1]) (own_keep_mono (Keep.refl T_5.heap []) (by simp)) K_10q (allS (Or.inl (List.mem_of_getElem? (i := 0) rfl)) all0)
  have K_13 : Keep h0 T_10.heap [] := Keep.trans (ws := []) K_9 K_10q (allS (Or.inr (Nat.le_of_eq g_1.symm)) all0)
  exact own_retv X_10 Bd.notSynchronized hx Bd.returns rfl (Or.inr (Or.inr (Or.inr (Or.inr ⟨rfl, rfl, rfl⟩)))) (hb hby d48_23) (by decide) (by decide) ⟨b_1, rfl, N_10, K_13, ⟨(A_1.keep K_11), ⟨r_6, u_7, _, _, _, q_10_1, q_10_0, (q_5_1.keep K_12 (ninS (Ne.symm (Nat.ne_of_lt (Nat.lt_of_lt_of_le A_1.lt q_5_0))) nin0)), (Or.inl ⟨rfl, by rw [own_tlen (by omega)], by rw [List.map_take], own_tal hal⟩)⟩, (own_tal hbd), (by rw [own_tlen (by omega)]; omega)⟩⟩
theorem d39_0 : decode jdk_41_method_13_code 0 = .ok (.iload_n 2, 1) := by decide +kernel
theorem d39_1 : decode jdk_41_method_13_code 1 = .ok (.iload_n 0, 1) := by decide +kernel
theorem d39_2 : decode jdk_41_method_13_code 2 = .ok (.ior, 1) := by decide +kernel
theorem d39_3 : decode jdk_41_method_13_code 3 = .ok (.iload_n 1, 1) := by decide +kernel
theorem d39_4 : decode jdk_41_method_13_code 4 = .ok (.ior, 1) := by decide +kernel
theorem d39_5 : decode jdk_41_method_13_code 5 = .ok (.ifCond .lt 10, 3) := by decide +kernel
theorem d39_8 : decode jdk_41_method_13_code 8 = .ok (.iload_n 1, 1) := by decide +kernel
theorem d39_9 : decode jdk_41_method_13_code 9 = .ok (.iload_n 2, 1) := by decide +kernel
theorem d39_10 : decode jdk_41_method_13_code 10 = .ok (.iload_n 0, 1) := by decide +kernel
theorem d39_11 : decode jdk_41_method_13_code 11 = .ok (.isub, 1) := by decide +kernel
theorem d39_12 : decode jdk_41_method_13_code 12 = .ok (.if_icmp .le 11, 3) := by decide +kernel
theorem d39_23 : decode jdk_41_method_13_code 23 = .ok (.iload_n 0, 1) := by decide +kernel
theorem d39_24 : decode jdk_41_method_13_code 24 = .ok (.ireturn, 1) := by decide +kernel
theorem ef_cfis (m : MethodId) (sf : Value) (ee : Nat) (n : Nat) (hrsf : sf.isRef = true) : entryFrame m #[(.int (0 : Int32)), (.int (Int32.ofNat ee)), (.int (Int32.ofNat n)), sf] 4 = mkF m 0 #[.val (.int (0 : Int32)), .val (.int (Int32.ofNat ee)), .val (.int (Int32.ofNat n)), .val sf] [] := by rcases ref_cases hrsf with rfl | ⟨ysf, rfl⟩ <;>  first | (simp [entryFrame, mkF, argsToLocals, Value.category]; done) | rfl
def Qcfis (Z : State) (ee : Nat) (n : Nat) (sf : Value) (h0 : Heap) (n0 : Nat) (v : Option Value) (h : Heap) (L : List Loc) : Prop := v = some (.int (0 : Int32)) ∧ Fr n0 L ∧ h = h0
theorem rmcfis (l : Launch) (Z : State) (a0 : Array Value) (hw : ∀ d ∈ tables_1, d.before a0 Z = true) (ws : List Jvm.Cond) (ee : Nat) (n : Nat) (sf : Value) (h0 : Heap) (n0 : Nat) (Z0 : n0 ≤ h0.size) (hsf : sf.isRef = true) (he : ee ≤ n) (hn : n ≤ 103) :
    MetFree l (⟨"jdk/internal/util/Preconditions", "checkFromIndexSize", "(IIILjava/util/function/BiFunction;)I"⟩ : MethodName) (head1 (Jvm.Cond.code (⟨"jdk/internal/util/Preconditions", "checkFromIndexSize", "(IIILjava/util/function/BiFunction;)I"⟩ : MethodName) jdk_41_method_13_code 4 (some .int) :: ws) ({ frames := 0, cells := 0, slots := 0, locals := 0 } : Room)) (fun a U => a = #[(.int (0 : Int32)), (.int (Int32.ofNat ee)), (.int (Int32.ofNat n)), sf] ∧ Z.Warmed39 U.vm ∧ U.heap = h0) (fun _ _ _ _ _ => True) (fun _ U o U' => ∃ v L, o = .returned v ∧ Qcfis Z ee n sf h0 n0 v U'.heap L ∧ FrameEnd U o U' L ({ frames := 0, cells := 0, slots := 0, locals := 0 } : Room).cells ({ frames := 0, cells := 0, slots := 0, locals := 0 } : Room).slots) := by
  refine MetFree.of_bodySF (plainFor_of_name pn_jdk_internal_util_Preconditions) hisR ?_
  intro p e s m args below meth c s₁ Bd hml0 hP hK
  obtain ⟨rfl, hZ, hH0⟩ := hP
  have hx := Bd.exec
  have hby := Bd.bytes
  have hml : c.maxLocals = 4 := hml0
  have hown : s.vm.findClass "jdk/internal/util/Preconditions" = some m.cls := findClass_of_methodNamed Bd.named
  have hnm := (name_of_methodNamed Bd.named Bd.method).1
  have X0 : Stand p l e ({ frames := 0, cells := 0, slots := 0, locals := 0 } : Room) s m #[(.int (0 : Int32)), (.int (Int32.ofNat ee)), (.int (Int32.ofNat n)), sf] below meth c s₁ [] 0 0 := Stand.of_body Bd
  have e0 : s₁.heap = h0 := by rw [← hH0, Bd.state]; rfl
  have N0 := Fr.nil n0
  refine own_cast (ef_cfis m sf ee n hsf) ?_
  show own_Go p e below (fun o U' => ∃ v L, o = .returned v ∧ Qcfis Z ee n sf h0 n0 v U'.heap L ∧ FrameEnd s o U' L ({ frames := 0, cells := 0, slots := 0, locals := 0 } : Room).cells ({ frames := 0, cells := 0, slots := 0, locals := 0 } : Room).slots) (s₁.setTop (mkF m 0 #[.val (.int (0 : Int32)), .val (.int (Int32.ofNat ee)), .val (.int (Int32.ofNat n)), .val sf] []))
  refine own_iloadN X0 hx (hb hby d39_0) (q := 1) rfl rfl ?_
  refine own_iloadN X0 hx (hb hby d39_1) (q := 2) rfl rfl ?_
  refine own_via (fun _ => XS.ior X0.here hx rfl (hb hby d39_2) rfl) ?_
  show own_Go p e below _ (s₁.setTop (mkF m 3 #[.val (.int (0 : Int32)), .val (.int (Int32.ofNat ee)), .val (.int (Int32.ofNat n)), .val sf] [(.int ((Int32.ofNat n) ||| (0 : Int32)))]))
  refine own_iloadN X0 hx (hb hby d39_3) (q := 4) rfl rfl ?_
  refine own_via (fun _ => XS.ior X0.here hx rfl (hb hby d39_4) rfl) ?_
  show own_Go p e below _ (s₁.setTop (mkF m 5 #[.val (.int (0 : Int32)), .val (.int (Int32.ofNat ee)), .val (.int (Int32.ofNat n)), .val sf] [(.int (((Int32.ofNat n) ||| (0 : Int32)) ||| (Int32.ofNat ee)))]))
  refine own_via (fun _ => XS.ifNo X0.here hx rfl (hb hby d39_5) rfl ((if0 _ _).trans (flt (own_or hn (by omega) : ¬ ((((Int32.ofNat n) ||| (0 : Int32)) ||| (Int32.ofNat ee)) < (0 : Int32)))).1)) ?_
  show own_Go p e below _ (s₁.setTop (mkF m 8 #[.val (.int (0 : Int32)), .val (.int (Int32.ofNat ee)), .val (.int (Int32.ofNat n)), .val sf] []))
  refine own_iloadN X0 hx (hb hby d39_8) (q := 9) rfl rfl ?_
  refine own_iloadN X0 hx (hb hby d39_9) (q := 10) rfl rfl ?_
  refine own_iloadN X0 hx (hb hby d39_10) (q := 11) rfl rfl ?_
  refine own_via (fun _ => XS.isub X0.here hx rfl (hb hby d39_11) rfl) ?_
  show own_Go p e below _ (s₁.setTop (mkF m 12 #[.val (.int (0 : Int32)), .val (.int (Int32.ofNat ee)), .val (.int (Int32.ofNat n)), .val sf] [(.int ((Int32.ofNat n) - (0 : Int32))), (.int (Int32.ofNat ee))]))
  rw [own_sub0]
  show own_Go p e below _ (s₁.setTop (mkF m 12 #[.val (.int (0 : Int32)), .val (.int (Int32.ofNat ee)), .val (.int (Int32.ofNat n)), .val sf] [(.int (Int32.ofNat n)), (.int (Int32.ofNat ee))]))
  refine own_via (fun _ => XS.icmpYes X0.here hx rfl (pc0 := 12) (pc' := 23) rfl (hb hby d39_12) rfl (flt (fun q => absurd ((own_lt (by omega) (by omega)).mp q) (by omega) : ¬ ((Int32.ofNat n) < (Int32.ofNat ee)))).2.2.2 (by decide) (by decide)) ?_
  show own_Go p e below _ (s₁.setTop (mkF m 23 #[.val (.int (0 : Int32)), .val (.int (Int32.ofNat ee)), .val (.int (Int32.ofNat n)), .val sf] []))
  refine own_iloadN X0 hx (hb hby d39_23) (q := 24) rfl rfl ?_
  exact own_retv X0 Bd.notSynchronized hx Bd.returns rfl (Or.inl ⟨rfl, (by simp), _, rfl⟩) (hb hby d39_24) (by decide) (by decide) (by rw [e0]; exact ⟨rfl, N0, rfl⟩)
theorem d38_0 : decode jdk_42_method_157_code 0 = .ok (.iload_n 0, 1) := by decide +kernel
theorem d38_1 : decode jdk_42_method_157_code 1 = .ok (.iload_n 1, 1) := by decide +kernel
theorem d38_2 : decode jdk_42_method_157_code 2 = .ok (.iload_n 2, 1) := by decide +kernel
theorem d38_3 : decode jdk_42_method_157_code 3 = .ok (.getstatic 1053, 3) := by decide +kernel
theorem d38_6 : decode jdk_42_method_157_code 6 = .ok (.invokestatic 1065, 3) := by decide +kernel
theorem d38_9 : decode jdk_42_method_157_code 9 = .ok (.ireturn, 1) := by decide +kernel
theorem pd_24 : parseMethodDescriptor "(IIILjava/util/function/BiFunction;)I" = some ⟨[.int, .int, .int, (.object "java/util/function/BiFunction")], some .int⟩ := by decide +kernel
theorem ef_scbo (m : MethodId) (ee : Nat) (n : Nat) : entryFrame m #[(.int (0 : Int32)), (.int (Int32.ofNat ee)), (.int (Int32.ofNat n))] 3 = mkF m 0 #[.val (.int (0 : Int32)), .val (.int (Int32.ofNat ee)), .val (.int (Int32.ofNat n))] [] := by first | (simp [entryFrame, mkF, argsToLocals, Value.category]; done) | rfl
def Qscbo (Z : State) (ee : Nat) (n : Nat) (sf : Value) (h0 : Heap) (n0 : Nat) (v : Option Value) (h : Heap) (L : List Loc) : Prop := v = some (.int (0 : Int32)) ∧ Fr n0 L ∧ h = h0
theorem rmscbo (l : Launch) (Z : State) (a0 : Array Value) (hw : ∀ d ∈ tables_1, d.before a0 Z = true) (ws : List Jvm.Cond) (ee : Nat) (n : Nat) (sf : Value) (h0 : Heap) (n0 : Nat) (Z0 : n0 ≤ h0.size) (O0 : Old Z n0 h0) (Ssf : Sta Z Z.heap "jdk/internal/util/Preconditions" "SIOOBE_FORMATTER" "Ljava/util/function/BiFunction;" sf) (hsf : sf.isRef = true) (he : ee ≤ n) (hn : n ≤ 103) :
    MetFree l (⟨"java/lang/String", "checkBoundsOffCount", "(III)I"⟩ : MethodName) (head1 (Jvm.Cond.code (⟨"java/lang/String", "checkBoundsOffCount", "(III)I"⟩ : MethodName) jdk_42_method_157_code 3 (some .int) :: ws) ({ frames := 1, cells := 0, slots := 0, locals := 15 } : Room)) (fun a U => a = #[(.int (0 : Int32)), (.int (Int32.ofNat ee)), (.int (Int32.ofNat n))] ∧ Z.Warmed39 U.vm ∧ U.heap = h0) (fun _ _ _ _ _ => True) (fun _ U o U' => ∃ v L, o = .returned v ∧ Qscbo Z ee n sf h0 n0 v U'.heap L ∧ FrameEnd U o U' L ({ frames := 1, cells := 0, slots := 0, locals := 15 } : Room).cells ({ frames := 1, cells := 0, slots := 0, locals := 15 } : Room).slots) := by
  refine MetFree.of_bodySF (plainFor_of_name pn_java_lang_String) hisR ?_
  intro p e s m args below meth c s₁ Bd hml0 hP hK
  obtain ⟨rfl, hZ, hH0⟩ := hP
  have hx := Bd.exec
  have hby := Bd.bytes
  have hml : c.maxLocals = 3 := hml0
  have hown : s.vm.findClass "java/lang/String" = some m.cls := findClass_of_methodNamed Bd.named
  have hnm := (name_of_methodNamed Bd.named Bd.method).1
  have X0 : Stand p l e ({ frames := 1, cells := 0, slots := 0, locals := 15 } : Room) s m #[(.int (0 : Int32)), (.int (Int32.ofNat ee)), (.int (Int32.ofNat n))] below meth c s₁ [] 0 0 := Stand.of_body Bd
  have e0 : s₁.heap = h0 := by rw [← hH0, Bd.state]; rfl
  have N0 := Fr.nil n0
  refine own_cast (ef_scbo m ee n) ?_
  show own_Go p e below (fun o U' => ∃ v L, o = .returned v ∧ Qscbo Z ee n sf h0 n0 v U'.heap L ∧ FrameEnd s o U' L ({ frames := 1, cells := 0, slots := 0, locals := 15 } : Room).cells ({ frames := 1, cells := 0, slots := 0, locals := 15 } : Room).slots) (s₁.setTop (mkF m 0 #[.val (.int (0 : Int32)), .val (.int (Int32.ofNat ee)), .val (.int (Int32.ofNat n))] []))
  refine own_iloadN X0 hx (hb hby d38_0) (q := 1) rfl rfl ?_
  refine own_iloadN X0 hx (hb hby d38_1) (q := 2) rfl rfl ?_
  refine own_iloadN X0 hx (hb hby d38_2) (q := 3) rfl rfl ?_
  obtain ⟨T_1, X_1, e_1, st_1⟩ := getS2 X0 hx hZ hown (host := "") (Or.inl (own_w hw 125 rfl)) Via.refl e0 (Ssf.ext O0.2) (g := (mkF m 3 #[.val (.int (0 : Int32)), .val (.int (Int32.ofNat ee)), .val (.int (Int32.ofNat n))] [(.int (Int32.ofNat n)), (.int (Int32.ofNat ee)), (.int (0 : Int32))])) rfl (hb hby d38_3)
  refine own_via st_1 ?_
  show own_Go p e below _ (T_1.setTop (mkF m 6 #[.val (.int (0 : Int32)), .val (.int (Int32.ofNat ee)), .val (.int (Int32.ofNat n))] [sf, (.int (Int32.ofNat n)), (.int (Int32.ofNat ee)), (.int (0 : Int32))]))
  obtain ⟨_, _, ⟨T_2, L_2, k_2, n_2⟩, -, X_2, ⟨Lc_2, hQ_2, l_2, y_2, z_2⟩, st_2⟩ := Jvm.LawKit.callS X_1 hx (y := (⟨"jdk/internal/util/Preconditions", "checkFromIndexSize", "(IIILjava/util/function/BiFunction;)I"⟩ : MethodName)) hown (mvT hZ (own_w hw 166 rfl)) (mvT hZ (own_w hw 167 rfl)) (mvT hZ (own_w hw 126 rfl)) (mvT hZ (own_w hw 168 rfl)) (by decide) (backOf (W := 0) (rmcfis l Z a0 hw [] ee n sf h0 n0 Z0 hsf he hn) hZ (own_w hw 168 rfl) (own_w hw 126 rfl) (by decide) (by decide)) (g := (mkF m 6 #[.val (.int (0 : Int32)), .val (.int (Int32.ofNat ee)), .val (.int (Int32.ofNat n))] [sf, (.int (Int32.ofNat n)), (.int (Int32.ofNat ee)), (.int (0 : Int32))])) rfl (by rw [hml]; rfl) (argsL := [(.int (0 : Int32)), (.int (Int32.ofNat ee)), (.int (Int32.ofNat n)), sf]) (rest := []) (lenOf pd_24 rfl) rfl (by show 2 * 0 + _ ≤ _; exact Nat.le_of_eq rfl) (hb hby d38_6) (fun _ _ => ⟨rfl, e_1, (by decide : 0 + 0 ≤ _), (by decide : 0 + 0 ≤ _)⟩)
  dsimp only [Pt.U, Pt.locs, Pt.cells, Pt.slots] at X_2 l_2 y_2 z_2 st_2 hQ_2
  subst l_2 y_2 z_2
  obtain ⟨rfl, Nq_2, e_2⟩ := hQ_2
  have N_2 := Fr.app N0 Nq_2
  refine own_via st_2 ?_
  show own_Go p e below _ (T_2.setTop (mkF m 9 #[.val (.int (0 : Int32)), .val (.int (Int32.ofNat ee)), .val (.int (Int32.ofNat n))] [(.int (0 : Int32))]))
  exact own_retv X_2 Bd.notSynchronized hx Bd.returns rfl (Or.inl ⟨rfl, (by simp), _, rfl⟩) (hb hby d38_9) (by decide) (by decide) (by rw [e_2]; exact ⟨rfl, N_2, rfl⟩)
theorem d37_0 : decode jdk_52_method_94_code 0 = .ok (.iload_n 0, 1) := by decide +kernel
theorem d37_1 : decode jdk_52_method_94_code 1 = .ok (.iload_n 1, 1) := by decide +kernel
theorem d37_2 : decode jdk_52_method_94_code 2 = .ok (.aload_n 2, 1) := by decide +kernel
theorem d37_3 : decode jdk_52_method_94_code 3 = .ok (.invokestatic 48, 3) := by decide +kernel
theorem d37_6 : decode jdk_52_method_94_code 6 = .ok (.invokestatic 419, 3) := by decide +kernel
theorem d37_9 : decode jdk_52_method_94_code 9 = .ok (.pop, 1) := by decide +kernel
theorem d37_10 : decode jdk_52_method_94_code 10 = .ok (.return_, 1) := by decide +kernel
theorem pd_25 : parseMethodDescriptor "(III)I" = some ⟨[.int, .int, .int], some .int⟩ := by decide +kernel
theorem ef_ucbo (m : MethodId) (a1 : Addr) (ee : Nat) : entryFrame m #[(.int (0 : Int32)), (.int (Int32.ofNat ee)), (.ref a1)] 3 = mkF m 0 #[.val (.int (0 : Int32)), .val (.int (Int32.ofNat ee)), .val (.ref a1)] [] := by first | (simp [entryFrame, mkF, argsToLocals, Value.category]; done) | rfl
def Qucbo (Z : State) (a1 : Addr) (k1 : ClassId) (cs : List Int32) (ee : Nat) (sf : Value) (h0 : Heap) (n0 : Nat) (v : Option Value) (h : Heap) (L : List Loc) : Prop := v = none ∧ Fr n0 L ∧ h = h0
theorem rmucbo (l : Launch) (Z : State) (a0 : Array Value) (hw : ∀ d ∈ tables_1, d.before a0 Z = true) (ws : List Jvm.Cond) (a1 : Addr) (k1 : ClassId) (cs : List Int32) (ee : Nat) (sf : Value) (h0 : Heap) (n0 : Nat) (Z0 : n0 ≤ h0.size) (O0 : Old Z n0 h0) (Ssf : Sta Z Z.heap "jdk/internal/util/Preconditions" "SIOOBE_FORMATTER" "Ljava/util/function/BiFunction;" sf) (hsf : sf.isRef = true) (A1 : Arv Z h0 a1 k1 .byte (Int32.ofNat (2 * cs.length)) (wideBytes cs) (.int (0 : Int32))) (hl : cs.length ≤ 103) (he : ee ≤ cs.length) :
    MetFree l (⟨"java/lang/StringUTF16", "checkBoundsOffCount", "(II[B)V"⟩ : MethodName) (head1 (Jvm.Cond.code (⟨"java/lang/StringUTF16", "checkBoundsOffCount", "(II[B)V"⟩ : MethodName) jdk_52_method_94_code 3 none :: ws) ({ frames := 2, cells := 0, slots := 0, locals := 29 } : Room)) (fun a U => a = #[(.int (0 : Int32)), (.int (Int32.ofNat ee)), (.ref a1)] ∧ Z.Warmed39 U.vm ∧ U.heap = h0) (fun _ _ _ _ _ => True) (fun _ U o U' => ∃ v L, o = .returned v ∧ Qucbo Z a1 k1 cs ee sf h0 n0 v U'.heap L ∧ FrameEnd U o U' L ({ frames := 2, cells := 0, slots := 0, locals := 29 } : Room).cells ({ frames := 2, cells := 0, slots := 0, locals := 29 } : Room).slots) := by
  refine MetFree.of_bodySF (plainFor_of_name pn_java_lang_StringUTF16) hisR ?_
  intro p e s m args below meth c s₁ Bd hml0 hP hK
  obtain ⟨rfl, hZ, hH0⟩ := hP
  have hx := Bd.exec
  have hby := Bd.bytes
  have hml : c.maxLocals = 3 := hml0
  have hown : s.vm.findClass "java/lang/StringUTF16" = some m.cls := findClass_of_methodNamed Bd.named
  have hnm := (name_of_methodNamed Bd.named Bd.method).1
  have X0 : Stand p l e ({ frames := 2, cells := 0, slots := 0, locals := 29 } : Room) s m #[(.int (0 : Int32)), (.int (Int32.ofNat ee)), (.ref a1)] below meth c s₁ [] 0 0 := Stand.of_body Bd
  have e0 : s₁.heap = h0 := by rw [← hH0, Bd.state]; rfl
  have N0 := Fr.nil n0
  refine own_cast (ef_ucbo m a1 ee) ?_
  show own_Go p e below (fun o U' => ∃ v L, o = .returned v ∧ Qucbo Z a1 k1 cs ee sf h0 n0 v U'.heap L ∧ FrameEnd s o U' L ({ frames := 2, cells := 0, slots := 0, locals := 29 } : Room).cells ({ frames := 2, cells := 0, slots := 0, locals := 29 } : Room).slots) (s₁.setTop (mkF m 0 #[.val (.int (0 : Int32)), .val (.int (Int32.ofNat ee)), .val (.ref a1)] []))
  refine own_iloadN X0 hx (hb hby d37_0) (q := 1) rfl rfl ?_
  refine own_iloadN X0 hx (hb hby d37_1) (q := 2) rfl rfl ?_
  refine own_aloadN X0 hx (hb hby d37_2) (q := 3) rfl rfl rfl ?_
  obtain ⟨_, _, ⟨T_1, L_1, k_1, n_1⟩, -, X_1, ⟨Lc_1, hQ_1, l_1, y_1, z_1⟩, st_1⟩ := Jvm.LawKit.callS X0 hx (y := (⟨"java/lang/StringUTF16", "length", "([B)I"⟩ : MethodName)) hown (mvT hZ (own_w hw 119 rfl)) (mvT hZ (own_w hw 120 rfl)) (mvT hZ (own_w hw 38 rfl)) (mvT hZ (own_w hw 121 rfl)) (by decide) (backOf (W := 2) (rmulen l Z a0 hw [] a1 k1 cs h0 n0 Z0 A1 hl) hZ (own_w hw 121 rfl) (own_w hw 38 rfl) (by decide) (by decide)) (g := (mkF m 3 #[.val (.int (0 : Int32)), .val (.int (Int32.ofNat ee)), .val (.ref a1)] [(.ref a1), (.int (Int32.ofNat ee)), (.int (0 : Int32))])) rfl (by rw [hml]; rfl) (argsL := [(.ref a1)]) (rest := [(.int (Int32.ofNat ee)), (.int (0 : Int32))]) (lenOf pd_2 rfl) rfl (by show 2 * 0 + _ ≤ _; exact Nat.le_of_eq rfl) (hb hby d37_3) (fun _ _ => ⟨rfl, e0, (by decide : 0 + 0 ≤ _), (by decide : 0 + 0 ≤ _)⟩)
  dsimp only [Pt.U, Pt.locs, Pt.cells, Pt.slots] at X_1 l_1 y_1 z_1 st_1 hQ_1
  subst l_1 y_1 z_1
  obtain ⟨rfl, Nq_1, e_1⟩ := hQ_1
  have N_1 := Fr.app N0 Nq_1
  refine own_via st_1 ?_
  show own_Go p e below _ (T_1.setTop (mkF m 6 #[.val (.int (0 : Int32)), .val (.int (Int32.ofNat ee)), .val (.ref a1)] [(.int (Int32.ofNat cs.length)), (.int (Int32.ofNat ee)), (.int (0 : Int32))]))
  obtain ⟨_, _, ⟨T_2, L_2, k_2, n_2⟩, -, X_2, ⟨Lc_2, hQ_2, l_2, y_2, z_2⟩, st_2⟩ := Jvm.LawKit.callS X_1 hx (y := (⟨"java/lang/String", "checkBoundsOffCount", "(III)I"⟩ : MethodName)) hown (mvT hZ (own_w hw 163 rfl)) (mvT hZ (own_w hw 164 rfl)) (mvT hZ (own_w hw 24 rfl)) (mvT hZ (own_w hw 165 rfl)) (by decide) (backOf (W := 0) (rmscbo l Z a0 hw [] ee cs.length sf h0 n0 Z0 O0 Ssf hsf he hl) hZ (own_w hw 165 rfl) (own_w hw 24 rfl) (by decide) (by decide)) (g := (mkF m 6 #[.val (.int (0 : Int32)), .val (.int (Int32.ofNat ee)), .val (.ref a1)] [(.int (Int32.ofNat cs.length)), (.int (Int32.ofNat ee)), (.int (0 : Int32))])) rfl (by rw [hml]; rfl) (argsL := [(.int (0 : Int32)), (.int (Int32.ofNat ee)), (.int (Int32.ofNat cs.length))]) (rest := []) (lenOf pd_25 rfl) rfl (by show 2 * 0 + _ ≤ _; exact Nat.le_of_eq rfl) (hb hby d37_6) (fun _ _ => ⟨rfl, e_1, (by decide : 0 + 0 ≤ _), (by decide : 0 + 0 ≤ _)⟩)
  dsimp only [Pt.U, Pt.locs, Pt.cells, Pt.slots] at X_2 l_2 y_2 z_2 st_2 hQ_2
  subst l_2 y_2 z_2
  obtain ⟨rfl, Nq_2, e_2⟩ := hQ_2
  have N_2 := Fr.app N_1 Nq_2
  refine own_via st_2 ?_
  show own_Go p e below _ (T_2.setTop (mkF m 9 #[.val (.int (0 : Int32)), .val (.int (Int32.ofNat ee)), .val (.ref a1)] [(.int (0 : Int32))]))
  refine own_via (fun _ => XS.pop X_2.here hx rfl (hb hby d37_9) rfl rfl) ?_
  show own_Go p e below _ (T_2.setTop (mkF m 10 #[.val (.int (0 : Int32)), .val (.int (Int32.ofNat ee)), .val (.ref a1)] []))
  exact own_ret0 X_2 Bd.notSynchronized hx Bd.returns (hb hby d37_10) (by decide) (by decide) (by rw [e_2]; exact ⟨rfl, N_2, rfl⟩)
theorem d36_0 : decode jdk_52_method_22_code 0 = .ok (.iload_n 1, 1) := by decide +kernel
theorem d36_1 : decode jdk_52_method_22_code 1 = .ok (.iload 4, 2) := by decide +kernel
theorem d36_3 : decode jdk_52_method_22_code 3 = .ok (.aload_n 0, 1) := by decide +kernel
theorem d36_4 : decode jdk_52_method_22_code 4 = .ok (.invokestatic 173, 3) := by decide +kernel
theorem d36_7 : decode jdk_52_method_22_code 7 = .ok (.iconst 0, 1) := by decide +kernel
theorem d36_8 : decode jdk_52_method_22_code 8 = .ok (.istore 5, 2) := by decide +kernel
theorem d36_10 : decode jdk_52_method_22_code 10 = .ok (.iload 5, 2) := by decide +kernel
theorem d36_12 : decode jdk_52_method_22_code 12 = .ok (.iload 4, 2) := by decide +kernel
theorem d36_14 : decode jdk_52_method_22_code 14 = .ok (.if_icmp .ge 39, 3) := by decide +kernel
theorem d36_17 : decode jdk_52_method_22_code 17 = .ok (.aload_n 0, 1) := by decide +kernel
theorem d36_18 : decode jdk_52_method_22_code 18 = .ok (.iload_n 1, 1) := by decide +kernel
theorem d36_19 : decode jdk_52_method_22_code 19 = .ok (.invokestatic 71, 3) := by decide +kernel
theorem d36_22 : decode jdk_52_method_22_code 22 = .ok (.istore 6, 2) := by decide +kernel
theorem d36_24 : decode jdk_52_method_22_code 24 = .ok (.iload 6, 2) := by decide +kernel
theorem d36_26 : decode jdk_52_method_22_code 26 = .ok (.sipush 255, 3) := by decide +kernel
theorem d36_29 : decode jdk_52_method_22_code 29 = .ok (.if_icmp .le 6, 3) := by decide +kernel
theorem d36_32 : decode jdk_52_method_22_code 32 = .ok (.iload 5, 2) := by decide +kernel
theorem d36_34 : decode jdk_52_method_22_code 34 = .ok (.ireturn, 1) := by decide +kernel
theorem d36_35 : decode jdk_52_method_22_code 35 = .ok (.aload_n 2, 1) := by decide +kernel
theorem d36_36 : decode jdk_52_method_22_code 36 = .ok (.iload_n 3, 1) := by decide +kernel
theorem d36_37 : decode jdk_52_method_22_code 37 = .ok (.iload 6, 2) := by decide +kernel
theorem d36_39 : decode jdk_52_method_22_code 39 = .ok (.i2b, 1) := by decide +kernel
theorem d36_40 : decode jdk_52_method_22_code 40 = .ok (.bastore, 1) := by decide +kernel
theorem d36_41 : decode jdk_52_method_22_code 41 = .ok (.iinc 1 1, 3) := by decide +kernel
theorem d36_44 : decode jdk_52_method_22_code 44 = .ok (.iinc 3 1, 3) := by decide +kernel
theorem d36_47 : decode jdk_52_method_22_code 47 = .ok (.iinc 5 1, 3) := by decide +kernel
theorem d36_50 : decode jdk_52_method_22_code 50 = .ok (.goto (-40), 3) := by decide +kernel
theorem d36_53 : decode jdk_52_method_22_code 53 = .ok (.iload 4, 2) := by decide +kernel
theorem d36_55 : decode jdk_52_method_22_code 55 = .ok (.ireturn, 1) := by decide +kernel
theorem pd_26 : parseMethodDescriptor "(II[B)V" = some ⟨[.int, .int, (.array .byte)], none⟩ := by decide +kernel
theorem ef_cmp5b (m : MethodId) (a1 : Addr) (a2 : Addr) (ee : Nat) : entryFrame m #[(.ref a1), (.int (0 : Int32)), (.ref a2), (.int (0 : Int32)), (.int (Int32.ofNat ee))] 7 = mkF m 0 #[.val (.ref a1), .val (.int (0 : Int32)), .val (.ref a2), .val (.int (0 : Int32)), .val (.int (Int32.ofNat ee)), .unset, .unset] [] := by first | (simp [entryFrame, mkF, argsToLocals, Value.category]; done) | rfl
def Qcmp5b (Z : State) (a1 : Addr) (k1 : ClassId) (cs : List Int32) (a2 : Addr) (k2 : ClassId) (ee : Nat) (sf : Value) (h0 : Heap) (n0 : Nat) (v : Option Value) (h : Heap) (L : List Loc) : Prop := ∃ k : Nat, v = some (.int (Int32.ofNat k)) ∧ Fr n0 L ∧ Keep h0 h [a2] ∧ (own_F (cs.take ee) k) ∧ (Arv Z h a2 k2 .byte (Int32.ofNat ee) (own_low (cs.take ee) k) (.int (0 : Int32)))
theorem rmcmp5b (l : Launch) (Z : State) (a0 : Array Value) (hw : ∀ d ∈ tables_1, d.before a0 Z = true) (ws : List Jvm.Cond) (a1 : Addr) (k1 : ClassId) (cs : List Int32) (a2 : Addr) (k2 : ClassId) (ee : Nat) (sf : Value) (h0 : Heap) (n0 : Nat) (Z0 : n0 ≤ h0.size) (O0 : Old Z n0 h0) (Sad : Sta Z Z.heap "java/lang/StringUTF16" "$assertionsDisabled" "Z" (.int (1 : Int32))) (Shi : Sta Z Z.heap "java/lang/StringUTF16" "HI_BYTE_SHIFT" "I" (.int (0 : Int32))) (Slo : Sta Z Z.heap "java/lang/StringUTF16" "LO_BYTE_SHIFT" "I" (.int (8 : Int32))) (Ssf : Sta Z Z.heap "jdk/internal/util/Preconditions" "SIOOBE_FORMATTER" "Ljava/util/function/BiFunction;" sf) (hsf : sf.isRef = true) (A1 : Arv Z h0 a1 k1 .byte (Int32.ofNat (2 * cs.length)) (wideBytes cs) (.int (0 : Int32))) (A2 : Arv Z h0 a2 k2 .byte (Int32.ofNat ee) (List.replicate ee (.int (0 : Int32))) (.int (0 : Int32))) (hl : cs.length ≤ 103) (hbd : ∀ c ∈ cs, ¬ c < 0 ∧ ¬ (65535 : Int32) < c) (he : ee ≤ cs.length) (ga : n0 ≤ a2) (ne : a1 ≠ a2) :
    MetFree l (⟨"java/lang/StringUTF16", "compress", "([BI[BII)I"⟩ : MethodName) (head1 (Jvm.Cond.code (⟨"java/lang/StringUTF16", "compress", "([BI[BII)I"⟩ : MethodName) jdk_52_method_22_code 7 (some .int) :: ws) ({ frames := 3, cells := 0, slots := 0, locals := 43 } : Room)) (fun a U => a = #[(.ref a1), (.int (0 : Int32)), (.ref a2), (.int (0 : Int32)), (.int (Int32.ofNat ee))] ∧ Z.Warmed39 U.vm ∧ U.heap = h0) (fun _ _ _ _ _ => True) (fun _ U o U' => ∃ v L, o = .returned v ∧ Qcmp5b Z a1 k1 cs a2 k2 ee sf h0 n0 v U'.heap L ∧ FrameEnd U o U' L ({ frames := 3, cells := 0, slots := 0, locals := 43 } : Room).cells ({ frames := 3, cells := 0, slots := 0, locals := 43 } : Room).slots) := by
  refine MetFree.of_bodySF (plainFor_of_name pn_java_lang_StringUTF16) hisR ?_
  intro p e s m args below meth c s₁ Bd hml0 hP hK
  obtain ⟨rfl, hZ, hH0⟩ := hP
  have hx := Bd.exec
  have hby := Bd.bytes
  have hml : c.maxLocals = 7 := hml0
  have hown : s.vm.findClass "java/lang/StringUTF16" = some m.cls := findClass_of_methodNamed Bd.named
  have hnm := (name_of_methodNamed Bd.named Bd.method).1
  have X0 : Stand p l e ({ frames := 3, cells := 0, slots := 0, locals := 43 } : Room) s m #[(.ref a1), (.int (0 : Int32)), (.ref a2), (.int (0 : Int32)), (.int (Int32.ofNat ee))] below meth c s₁ [] 0 0 := Stand.of_body Bd
  have e0 : s₁.heap = h0 := by rw [← hH0, Bd.state]; rfl
  have N0 := Fr.nil n0
  refine own_cast (ef_cmp5b m a1 a2 ee) ?_
  show own_Go p e below (fun o U' => ∃ v L, o = .returned v ∧ Qcmp5b Z a1 k1 cs a2 k2 ee sf h0 n0 v U'.heap L ∧ FrameEnd s o U' L ({ frames := 3, cells := 0, slots := 0, locals := 43 } : Room).cells ({ frames := 3, cells := 0, slots := 0, locals := 43 } : Room).slots) (s₁.setTop (mkF m 0 #[.val (.ref a1), .val (.int (0 : Int32)), .val (.ref a2), .val (.int (0 : Int32)), .val (.int (Int32.ofNat ee)), .unset, .unset] []))
  refine own_iloadN X0 hx (hb hby d36_0) (q := 1) rfl rfl ?_
  refine own_iload X0 hx (hb hby d36_1) (q := 3) rfl rfl ?_
  refine own_aloadN X0 hx (hb hby d36_3) (q := 4) rfl rfl rfl ?_
  obtain ⟨_, _, ⟨T_1, L_1, k_1, n_1⟩, -, X_1, ⟨Lc_1, hQ_1, l_1, y_1, z_1⟩, st_1⟩ := Jvm.LawKit.callS X0 hx (y := (⟨"java/lang/StringUTF16", "checkBoundsOffCount", "(II[B)V"⟩ : MethodName)) hown (mvT hZ (own_w hw 160 rfl)) (mvT hZ (own_w hw 161 rfl)) (mvT hZ (own_w hw 38 rfl)) (mvT hZ (own_w hw 162 rfl)) (by decide) (backOf (W := 0) (rmucbo l Z a0 hw [] a1 k1 cs ee sf h0 n0 Z0 O0 Ssf hsf A1 hl he) hZ (own_w hw 162 rfl) (own_w hw 38 rfl) (by decide) (by decide)) (g := (mkF m 4 #[.val (.ref a1), .val (.int (0 : Int32)), .val (.ref a2), .val (.int (0 : Int32)), .val (.int (Int32.ofNat ee)), .unset, .unset] [(.ref a1), (.int (Int32.ofNat ee)), (.int (0 : Int32))])) rfl (by rw [hml]; rfl) (argsL := [(.int (0 : Int32)), (.int (Int32.ofNat ee)), (.ref a1)]) (rest := []) (lenOf pd_26 rfl) rfl (by show 2 * 0 + _ ≤ _; exact Nat.le_of_eq rfl) (hb hby d36_4) (fun _ _ => ⟨rfl, e0, (by decide : 0 + 0 ≤ _), (by decide : 0 + 0 ≤ _)⟩)
  dsimp only [Pt.U, Pt.locs, Pt.cells, Pt.slots] at X_1 l_1 y_1 z_1 st_1 hQ_1
  subst l_1 y_1 z_1
  obtain ⟨rfl, Nq_1, e_1⟩ := hQ_1
  have N_1 := Fr.app N0 Nq_1
  refine own_via st_1 ?_
  show own_Go p e below _ (T_1.setTop (mkF m 7 #[.val (.ref a1), .val (.int (0 : Int32)), .val (.ref a2), .val (.int (0 : Int32)), .val (.int (Int32.ofNat ee)), .unset, .unset] []))
  refine own_iconst X_1 hx (hb hby d36_7) (q := 8) (z := (0 : Int32)) rfl rfl ?_
  refine own_via (fun _ => XS.istore X_1.here hx rfl (hb hby d36_8) rfl (l' := #[.val (.ref a1), .val (.int (0 : Int32)), .val (.ref a2), .val (.int (0 : Int32)), .val (.int (Int32.ofNat ee)), .val (.int (0 : Int32)), .unset]) rfl) ?_
  show own_Go p e below _ (T_1.setTop (mkF m 10 #[.val (.ref a1), .val (.int (0 : Int32)), .val (.ref a2), .val (.int (0 : Int32)), .val (.int (Int32.ofNat ee)), .val (.int (0 : Int32)), .unset] []))
  have A2' : Arv Z h0 a2 k2 .byte (Int32.ofNat ee) (own_low (cs.take ee) 0) (.int (0 : Int32)) := own_low0t he ▸ A2
  have loop_2 : ∀ (f_3 : Nat) (T_4 : State) (L_5 : List Loc) (i : Nat) (s6_3 : Slot) (o6_3 : One s6_3) (hno : ∀ j, j < i → ¬ (255 : Int32) < cs.getD j 0) (hi : i ≤ ee) (X_3 : Stand p l e ({ frames := 3, cells := 0, slots := 0, locals := 43 } : Room) s m #[(.ref a1), (.int (0 : Int32)), (.ref a2), (.int (0 : Int32)), (.int (Int32.ofNat ee))] below meth c T_4 L_5 0 0) (h_6 : Heap) (e_3 : T_4.heap = h_6) (K_3 : Keep h0 h_6 [a2]) (Ai : Arv Z h_6 a2 k2 .byte (Int32.ofNat ee) (own_low (cs.take ee) i) (.int (0 : Int32))) (N_3 : Fr n0 L_5) (hf_3 : ee - i = f_3), own_Go p e below (fun o U' => ∃ v L, o = .returned v ∧ Qcmp5b Z a1 k1 cs a2 k2 ee sf h0 n0 v U'.heap L ∧ FrameEnd s o U' L ({ frames := 3, cells := 0, slots := 0, locals := 43 } : Room).cells ({ frames := 3, cells := 0, slots := 0, locals := 43 } : Room).slots) (T_4.setTop (mkF m 10 #[.val (.ref a1), .val (.int (Int32.ofNat i)), .val (.ref a2), .val (.int (Int32.ofNat i)), .val (.int (Int32.ofNat ee)), .val (.int (Int32.ofNat i)), s6_3] [])) := by
    intro f_3
    induction f_3 using Nat.strongRecOn with
    | _ f_3 ih_3 =>
      intro T_4 L_5 i s6_3 o6_3 hno hi X_3 h_6 e_3 K_3 Ai N_3 hf_3
      show own_Go p e below _ (T_4.setTop (mkF m 10 #[.val (.ref a1), .val (.int (Int32.ofNat i)), .val (.ref a2), .val (.int (Int32.ofNat i)), .val (.int (Int32.ofNat ee)), .val (.int (Int32.ofNat i)), s6_3] []))
      refine own_iload X_3 hx (hb hby d36_10) (q := 12) rfl rfl ?_
      refine own_iload X_3 hx (hb hby d36_12) (q := 14) rfl rfl ?_
      by_cases hlt : i < ee
      · refine own_via (fun _ => XS.icmpNo X_3.here hx rfl (hb hby d36_14) rfl (tlt ((own_lt (i := i) (j := ee) (by omega) (by omega)).mpr hlt : (Int32.ofNat i) < (Int32.ofNat ee))).2.1) ?_
        show own_Go p e below _ (T_4.setTop (mkF m 17 #[.val (.ref a1), .val (.int (Int32.ofNat i)), .val (.ref a2), .val (.int (Int32.ofNat i)), .val (.int (Int32.ofNat ee)), .val (.int (Int32.ofNat i)), s6_3] []))
        refine own_aloadN X_3 hx (hb hby d36_17) (q := 18) rfl rfl rfl ?_
        refine own_iloadN X_3 hx (hb hby d36_18) (q := 19) rfl rfl ?_
        have K_7 : Keep h0 h_6 [a2] := Keep.trans (ws := [a2]) (own_keep_mono (Keep.refl h0 []) (by simp)) K_3 (allS (Or.inl (List.mem_of_getElem? (i := 0) rfl)) all0)
        obtain ⟨_, _, ⟨T_8, L_8, k_8, n_8⟩, -, X_8, ⟨Lc_8, hQ_8, l_8, y_8, z_8⟩, st_8⟩ := Jvm.LawKit.callS X_3 hx (y := (⟨"java/lang/StringUTF16", "getChar", "([BI)C"⟩ : MethodName)) hown (mvT hZ (own_w hw 60 rfl)) (mvT hZ (own_w hw 61 rfl)) (mvT hZ (own_w hw 38 rfl)) (mvT hZ (own_w hw 62 rfl)) (by decide) (backOf (W := 0) (rmgetChar l Z a0 hw [] a1 k1 cs i h_6 n0 (Nat.le_trans Z0 K_7.1) (O0.keep K_7 (allS ga all0)) Sad Shi Slo (A1.keep K_7 (ninS ne nin0)) hl (by omega) hbd) hZ (own_w hw 62 rfl) (own_w hw 38 rfl) (by decide) (by decide)) (g := (mkF m 19 #[.val (.ref a1), .val (.int (Int32.ofNat i)), .val (.ref a2), .val (.int (Int32.ofNat i)), .val (.int (Int32.ofNat ee)), .val (.int (Int32.ofNat i)), s6_3] [(.int (Int32.ofNat i)), (.ref a1)])) rfl (by rw [hml]; rfl) (argsL := [(.ref a1), (.int (Int32.ofNat i))]) (rest := []) (lenOf pd_7 rfl) rfl (by show 2 * 0 + _ ≤ _; exact Nat.le_of_eq rfl) (hb hby d36_19) (fun _ _ => ⟨rfl, e_3, (by decide : 0 + 0 ≤ _), (by decide : 0 + 0 ≤ _)⟩)
        dsimp only [Pt.U, Pt.locs, Pt.cells, Pt.slots] at X_8 l_8 y_8 z_8 st_8 hQ_8
        subst l_8 y_8 z_8
        obtain ⟨rfl, Nq_8, e_8⟩ := hQ_8
        have N_8 := Fr.app N_3 Nq_8
        refine own_via st_8 ?_
        show own_Go p e below _ (T_8.setTop (mkF m 22 #[.val (.ref a1), .val (.int (Int32.ofNat i)), .val (.ref a2), .val (.int (Int32.ofNat i)), .val (.int (Int32.ofNat ee)), .val (.int (Int32.ofNat i)), s6_3] [(.int (cs.getD i 0))]))
        refine own_via (fun _ => XS.istoreS X_8.here hx rfl (hb hby d36_22) rfl rfl o6_3) ?_
        show own_Go p e below _ (T_8.setTop (mkF m 24 #[.val (.ref a1), .val (.int (Int32.ofNat i)), .val (.ref a2), .val (.int (Int32.ofNat i)), .val (.int (Int32.ofNat ee)), .val (.int (Int32.ofNat i)), .val (.int (cs.getD i 0))] []))
        refine own_iload X_8 hx (hb hby d36_24) (q := 26) rfl rfl ?_
        refine own_sipush X_8 hx (hb hby d36_26) (q := 29) (z := (255 : Int32)) rfl rfl ?_
        by_cases hbig : (255 : Int32) < (cs.getD i 0)
        · refine own_via (fun _ => XS.icmpNo X_8.here hx rfl (hb hby d36_29) rfl (tlt (hbig : (255 : Int32) < (cs.getD i 0))).2.2.2) ?_
          show own_Go p e below _ (T_8.setTop (mkF m 32 #[.val (.ref a1), .val (.int (Int32.ofNat i)), .val (.ref a2), .val (.int (Int32.ofNat i)), .val (.int (Int32.ofNat ee)), .val (.int (Int32.ofNat i)), .val (.int (cs.getD i 0))] []))
          refine own_iload X_8 hx (hb hby d36_32) (q := 34) rfl rfl ?_
          exact own_retv X_8 Bd.notSynchronized hx Bd.returns rfl (Or.inl ⟨rfl, (by simp), _, rfl⟩) (hb hby d36_34) (by decide) (by decide) (by rw [e_8]; exact ⟨i, rfl, N_8, K_7, (own_Ft he hlt hno hbig), Ai⟩)
        · refine own_via (fun _ => XS.icmpYes X_8.here hx rfl (pc0 := 29) (pc' := 35) rfl (hb hby d36_29) rfl (flt (hbig : ¬ ((255 : Int32) < (cs.getD i 0)))).2.2.2 (by decide) (by decide)) ?_
          show own_Go p e below _ (T_8.setTop (mkF m 35 #[.val (.ref a1), .val (.int (Int32.ofNat i)), .val (.ref a2), .val (.int (Int32.ofNat i)), .val (.int (Int32.ofNat ee)), .val (.int (Int32.ofNat i)), .val (.int (cs.getD i 0))] []))
          refine own_aloadN X_8 hx (hb hby d36_35) (q := 36) rfl rfl rfl ?_
          refine own_iloadN X_8 hx (hb hby d36_36) (q := 37) rfl rfl ?_
          refine own_iload X_8 hx (hb hby d36_37) (q := 39) rfl rfl ?_
          refine own_via (fun _ => XS.i2b X_8.here hx rfl (hb hby d36_39) rfl) ?_
          show own_Go p e below _ (T_8.setTop (mkF m 40 #[.val (.ref a1), .val (.int (Int32.ofNat i)), .val (.ref a2), .val (.int (Int32.ofNat i)), .val (.int (Int32.ofNat ee)), .val (.int (Int32.ofNat i)), .val (.int (cs.getD i 0))] [(.int ((cs.getD i 0).toInt8.toInt32)), (.int (Int32.ofNat i)), (.ref a2)]))
          obtain ⟨cl_9, Ar_9, q_9, S_9, M_9, H_9, G_9⟩ := (id Ai)
          have ib_9 := own_inbs (n := ee) (i := i) S_9 (by omega) (by omega)
          obtain ⟨T_9, h_9, X_9, e_9, W_9, st_9⟩ := stB X_8 hx hZ e_8 Ar_9 (j := Int32.ofNat i) ib_9 (g := (mkF m 40 #[.val (.ref a1), .val (.int (Int32.ofNat i)), .val (.ref a2), .val (.int (Int32.ofNat i)), .val (.int (Int32.ofNat ee)), .val (.int (Int32.ofNat i)), .val (.int (cs.getD i 0))] [(.int ((cs.getD i 0).toInt8.toInt32)), (.int (Int32.ofNat i)), (.ref a2)])) rfl rfl (hb hby d36_40)
          have V_9 : Arv Z h_9 a2 k2 .byte (Int32.ofNat ee) ((own_low (cs.take ee) i).set i (.int (nar .byte ((cs.getD i 0).toInt8.toInt32)))) (.int (0 : Int32)) := Arv.set Ar_9 q_9 S_9 M_9 H_9 G_9 (fits_nar_byte _) W_9 i (own_clamp (by omega)) (by rw [own_lowlen, own_tlen he]; omega)
          have V_9' : Arv Z h_9 a2 k2 .byte (Int32.ofNat ee) (own_low (cs.take ee) (i + 1)) (.int (0 : Int32)) := by have q := V_9; rw [own_nb] at q; exact own_lowst he hlt ▸ q
          have N_9 := Fr.snoc X_9 N_8 ga
          refine own_via st_9 ?_
          show own_Go p e below _ (T_9.setTop (mkF m 41 #[.val (.ref a1), .val (.int (Int32.ofNat i)), .val (.ref a2), .val (.int (Int32.ofNat i)), .val (.int (Int32.ofNat ee)), .val (.int (Int32.ofNat i)), .val (.int (cs.getD i 0))] []))
          refine own_via (fun _ => XS.iinc X_9.here hx rfl (hb hby d36_41) rfl (l' := #[.val (.ref a1), .val (.int ((Int32.ofNat i) + (1 : Int32))), .val (.ref a2), .val (.int (Int32.ofNat i)), .val (.int (Int32.ofNat ee)), .val (.int (Int32.ofNat i)), .val (.int (cs.getD i 0))]) rfl) ?_
          show own_Go p e below _ (T_9.setTop (mkF m 44 #[.val (.ref a1), .val (.int ((Int32.ofNat i) + (1 : Int32))), .val (.ref a2), .val (.int (Int32.ofNat i)), .val (.int (Int32.ofNat ee)), .val (.int (Int32.ofNat i)), .val (.int (cs.getD i 0))] []))
          rw [own_succ]
          show own_Go p e below _ (T_9.setTop (mkF m 44 #[.val (.ref a1), .val (.int (Int32.ofNat (i + 1))), .val (.ref a2), .val (.int (Int32.ofNat i)), .val (.int (Int32.ofNat ee)), .val (.int (Int32.ofNat i)), .val (.int (cs.getD i 0))] []))
          refine own_via (fun _ => XS.iinc X_9.here hx rfl (hb hby d36_44) rfl (l' := #[.val (.ref a1), .val (.int (Int32.ofNat (i + 1))), .val (.ref a2), .val (.int ((Int32.ofNat i) + (1 : Int32))), .val (.int (Int32.ofNat ee)), .val (.int (Int32.ofNat i)), .val (.int (cs.getD i 0))]) rfl) ?_
          show own_Go p e below _ (T_9.setTop (mkF m 47 #[.val (.ref a1), .val (.int (Int32.ofNat (i + 1))), .val (.ref a2), .val (.int ((Int32.ofNat i) + (1 : Int32))), .val (.int (Int32.ofNat ee)), .val (.int (Int32.ofNat i)), .val (.int (cs.getD i 0))] []))
          rw [own_succ]
          show own_Go p e below _ (T_9.setTop (mkF m 47 #[.val (.ref a1), .val (.int (Int32.ofNat (i + 1))), .val (.ref a2), .val (.int (Int32.ofNat (i + 1))), .val (.int (Int32.ofNat ee)), .val (.int (Int32.ofNat i)), .val (.int (cs.getD i 0))] []))
          refine own_via (fun _ => XS.iinc X_9.here hx rfl (hb hby d36_47) rfl (l' := #[.val (.ref a1), .val (.int (Int32.ofNat (i + 1))), .val (.ref a2), .val (.int (Int32.ofNat (i + 1))), .val (.int (Int32.ofNat ee)), .val (.int ((Int32.ofNat i) + (1 : Int32))), .val (.int (cs.getD i 0))]) rfl) ?_
          show own_Go p e below _ (T_9.setTop (mkF m 50 #[.val (.ref a1), .val (.int (Int32.ofNat (i + 1))), .val (.ref a2), .val (.int (Int32.ofNat (i + 1))), .val (.int (Int32.ofNat ee)), .val (.int ((Int32.ofNat i) + (1 : Int32))), .val (.int (cs.getD i 0))] []))
          rw [own_succ]
          show own_Go p e below _ (T_9.setTop (mkF m 50 #[.val (.ref a1), .val (.int (Int32.ofNat (i + 1))), .val (.ref a2), .val (.int (Int32.ofNat (i + 1))), .val (.int (Int32.ofNat ee)), .val (.int (Int32.ofNat (i + 1))), .val (.int (cs.getD i 0))] []))
          refine own_via (fun _ => XS.goto X_9.here hx rfl (pc0 := 50) (pc' := 10) rfl (hb hby d36_50) (by decide) (by decide)) ?_
          show own_Go p e below _ (T_9.setTop (mkF m 10 #[.val (.ref a1), .val (.int (Int32.ofNat (i + 1))), .val (.ref a2), .val (.int (Int32.ofNat (i + 1))), .val (.int (Int32.ofNat ee)), .val (.int (Int32.ofNat (i + 1))), .val (.int (cs.getD i 0))] []))
          have K_10 : Keep h0 h_9 [a2] := Keep.wr (ws := [a2]) K_7 W_9 (Or.inl (List.mem_of_getElem? (i := 0) rfl))
          exact ih_3 (ee - (i + 1)) (by omega) _ _ (i + 1) _ (One.val rfl) (fun j hj => (Nat.lt_succ_iff_lt_or_eq.mp hj).elim (hno j) fun q => q ▸ hbig) (by omega) X_9 _ e_9 K_10 V_9' N_9 rfl
      · refine own_via (fun _ => XS.icmpYes X_3.here hx rfl (pc0 := 14) (pc' := 53) rfl (hb hby d36_14) rfl (flt (fun q => hlt ((own_lt (i := i) (j := ee) (by omega) (by omega)).mp q) : ¬ ((Int32.ofNat i) < (Int32.ofNat ee)))).2.1 (by decide) (by decide)) ?_
        show own_Go p e below _ (T_4.setTop (mkF m 53 #[.val (.ref a1), .val (.int (Int32.ofNat i)), .val (.ref a2), .val (.int (Int32.ofNat i)), .val (.int (Int32.ofNat ee)), .val (.int (Int32.ofNat i)), s6_3] []))
        have hie : i = ee := by omega
        refine own_iload X_3 hx (hb hby d36_53) (q := 55) rfl rfl ?_
        have K_11 : Keep h0 h_6 [a2] := Keep.trans (ws := [a2]) (own_keep_mono (Keep.refl h0 []) (by simp)) K_3 (allS (Or.inl (List.mem_of_getElem? (i := 0) rfl)) all0)
        exact own_retv X_3 Bd.notSynchronized hx Bd.returns rfl (Or.inl ⟨rfl, (by simp), _, rfl⟩) (hb hby d36_55) (by decide) (by decide) (by rw [e_3]; exact ⟨ee, rfl, N_3, K_11, (own_Fe he (hie ▸ hno)), (by have q := Ai; rw [hie] at q; exact q)⟩)
  exact loop_2 (ee - 0) _ _ 0 _ One.u (fun j hj => absurd hj (Nat.not_lt_zero j)) (Nat.zero_le _) X_1 _ e_1 (own_keep_mono (Keep.refl h0 []) (by simp)) A2' N_1 rfl
theorem d35_0 : decode jdk_52_method_17_code 0 = .ok (.iload_n 2, 1) := by decide +kernel
theorem d35_1 : decode jdk_52_method_17_code 1 = .ok (.newarray .byte, 2) := by decide +kernel
theorem d35_3 : decode jdk_52_method_17_code 3 = .ok (.astore_n 3, 1) := by decide +kernel
theorem d35_4 : decode jdk_52_method_17_code 4 = .ok (.aload_n 0, 1) := by decide +kernel
theorem d35_5 : decode jdk_52_method_17_code 5 = .ok (.iload_n 1, 1) := by decide +kernel
theorem d35_6 : decode jdk_52_method_17_code 6 = .ok (.aload_n 3, 1) := by decide +kernel
theorem d35_7 : decode jdk_52_method_17_code 7 = .ok (.iconst 0, 1) := by decide +kernel
theorem d35_8 : decode jdk_52_method_17_code 8 = .ok (.iload_n 2, 1) := by decide +kernel
theorem d35_9 : decode jdk_52_method_17_code 9 = .ok (.invokestatic 123, 3) := by decide +kernel
theorem d35_12 : decode jdk_52_method_17_code 12 = .ok (.istore 4, 2) := by decide +kernel
theorem d35_14 : decode jdk_52_method_17_code 14 = .ok (.iload 4, 2) := by decide +kernel
theorem d35_16 : decode jdk_52_method_17_code 16 = .ok (.iload_n 2, 1) := by decide +kernel
theorem d35_17 : decode jdk_52_method_17_code 17 = .ok (.if_icmp .eq 47, 3) := by decide +kernel
theorem d35_20 : decode jdk_52_method_17_code 20 = .ok (.aload_n 0, 1) := by decide +kernel
theorem d35_21 : decode jdk_52_method_17_code 21 = .ok (.iload_n 1, 1) := by decide +kernel
theorem d35_22 : decode jdk_52_method_17_code 22 = .ok (.iconst 1, 1) := by decide +kernel
theorem d35_23 : decode jdk_52_method_17_code 23 = .ok (.ishl, 1) := by decide +kernel
theorem d35_24 : decode jdk_52_method_17_code 24 = .ok (.iload_n 1, 1) := by decide +kernel
theorem d35_25 : decode jdk_52_method_17_code 25 = .ok (.iload_n 2, 1) := by decide +kernel
theorem d35_26 : decode jdk_52_method_17_code 26 = .ok (.iadd, 1) := by decide +kernel
theorem d35_27 : decode jdk_52_method_17_code 27 = .ok (.invokestatic 11, 3) := by decide +kernel
theorem d35_30 : decode jdk_52_method_17_code 30 = .ok (.invokestatic 126, 3) := by decide +kernel
theorem d35_33 : decode jdk_52_method_17_code 33 = .ok (.astore 5, 2) := by decide +kernel
theorem d35_35 : decode jdk_52_method_17_code 35 = .ok (.aload 5, 2) := by decide +kernel
theorem d35_37 : decode jdk_52_method_17_code 37 = .ok (.iload 4, 2) := by decide +kernel
theorem d35_39 : decode jdk_52_method_17_code 39 = .ok (.invokestatic 71, 3) := by decide +kernel
theorem d35_42 : decode jdk_52_method_17_code 42 = .ok (.sipush 255, 3) := by decide +kernel
theorem d35_45 : decode jdk_52_method_17_code 45 = .ok (.if_icmp .gt 16, 3) := by decide +kernel
theorem d35_61 : decode jdk_52_method_17_code 61 = .ok (.aload 5, 2) := by decide +kernel
theorem d35_63 : decode jdk_52_method_17_code 63 = .ok (.areturn, 1) := by decide +kernel
theorem d35_64 : decode jdk_52_method_17_code 64 = .ok (.aload_n 3, 1) := by decide +kernel
theorem d35_65 : decode jdk_52_method_17_code 65 = .ok (.areturn, 1) := by decide +kernel
theorem ef_cmp3b (m : MethodId) (a1 : Addr) (ee : Nat) : entryFrame m #[(.ref a1), (.int (0 : Int32)), (.int (Int32.ofNat ee))] 6 = mkF m 0 #[.val (.ref a1), .val (.int (0 : Int32)), .val (.int (Int32.ofNat ee)), .unset, .unset, .unset] [] := by first | (simp [entryFrame, mkF, argsToLocals, Value.category]; done) | rfl
def Qcmp3b (Z : State) (a1 : Addr) (k1 : ClassId) (cs : List Int32) (ee : Nat) (sf : Value) (h0 : Heap) (n0 : Nat) (v : Option Value) (h : Heap) (L : List Loc) : Prop := ∃ r : Addr, ∃ k : ClassId, ∃ cd : Int32, ∃ N2 : Int32, ∃ vs : List Value, v = some (.ref r) ∧ Fr n0 L ∧ Keep h0 h [] ∧ (h0.size ≤ r) ∧ (CodA (cs.take ee) cd N2 vs) ∧ (Arv Z h r k .byte N2 vs (.int (0 : Int32)))
theorem rmcmp3b (l : Launch) (Z : State) (a0 : Array Value) (hw : ∀ d ∈ tables_1, d.before a0 Z = true) (ws : List Jvm.Cond) (a1 : Addr) (k1 : ClassId) (cs : List Int32) (ee : Nat) (sf : Value) (h0 : Heap) (n0 : Nat) (Z0 : n0 ≤ h0.size) (O0 : Old Z n0 h0) (Sad : Sta Z Z.heap "java/lang/StringUTF16" "$assertionsDisabled" "Z" (.int (1 : Int32))) (Shi : Sta Z Z.heap "java/lang/StringUTF16" "HI_BYTE_SHIFT" "I" (.int (0 : Int32))) (Slo : Sta Z Z.heap "java/lang/StringUTF16" "LO_BYTE_SHIFT" "I" (.int (8 : Int32))) (Ssf : Sta Z Z.heap "jdk/internal/util/Preconditions" "SIOOBE_FORMATTER" "Ljava/util/function/BiFunction;" sf) (hsf : sf.isRef = true) (A1 : Arv Z h0 a1 k1 .byte (Int32.ofNat (2 * cs.length)) (wideBytes cs) (.int (0 : Int32))) (hl : cs.length ≤ 103) (hbd : ∀ c ∈ cs, ¬ c < 0 ∧ ¬ (65535 : Int32) < c) (he : ee < cs.length) (he0 : 0 < ee) :
    MetFree l (⟨"java/lang/StringUTF16", "compress", "([BII)[B"⟩ : MethodName) (head1 (Jvm.Cond.code (⟨"java/lang/StringUTF16", "compress", "([BII)[B"⟩ : MethodName) jdk_52_method_17_code 6 (some (.array .byte)) :: ws) ({ frames := 4, cells := 2, slots := 309, locals := 80 } : Room)) (fun a U => a = #[(.ref a1), (.int (0 : Int32)), (.int (Int32.ofNat ee))] ∧ Z.Warmed39 U.vm ∧ U.heap = h0) (fun _ _ _ _ _ => True) (fun _ U o U' => ∃ v L, o = .returned v ∧ Qcmp3b Z a1 k1 cs ee sf h0 n0 v U'.heap L ∧ FrameEnd U o U' L ({ frames := 4, cells := 2, slots := 309, locals := 80 } : Room).cells ({ frames := 4, cells := 2, slots := 309, locals := 80 } : Room).slots) := by
  refine MetFree.of_bodySF (plainFor_of_name pn_java_lang_StringUTF16) hisR ?_
  intro p e s m args below meth c s₁ Bd hml0 hP hK
  obtain ⟨rfl, hZ, hH0⟩ := hP
  have hx := Bd.exec
  have hby := Bd.bytes
  have hml : c.maxLocals = 6 := hml0
  have hown : s.vm.findClass "java/lang/StringUTF16" = some m.cls := findClass_of_methodNamed Bd.named
  have hnm := (name_of_methodNamed Bd.named Bd.method).1
  have X0 : Stand p l e ({ frames := 4, cells := 2, slots := 309, locals := 80 } : Room) s m #[(.ref a1), (.int (0 : Int32)), (.int (Int32.ofNat ee))] below meth c s₁ [] 0 0 := Stand.of_body Bd
  have e0 : s₁.heap = h0 := by rw [← hH0, Bd.state]; rfl
  have N0 := Fr.nil n0
  refine own_cast (ef_cmp3b m a1 ee) ?_
  show own_Go p e below (fun o U' => ∃ v L, o = .returned v ∧ Qcmp3b Z a1 k1 cs ee sf h0 n0 v U'.heap L ∧ FrameEnd s o U' L ({ frames := 4, cells := 2, slots := 309, locals := 80 } : Room).cells ({ frames := 4, cells := 2, slots := 309, locals := 80 } : Room).slots) (s₁.setTop (mkF m 0 #[.val (.ref a1), .val (.int (0 : Int32)), .val (.int (Int32.ofNat ee)), .unset, .unset, .unset] []))
  refine own_iloadN X0 hx (hb hby d35_0) (q := 1) rfl rfl ?_
  obtain ⟨T_1, h_1, k_1, X_1, e_1, E_1, A_1, st_1⟩ := newP X0 hx hZ (own_w hw 40 rfl) e0 (g := (mkF m 1 #[.val (.ref a1), .val (.int (0 : Int32)), .val (.int (Int32.ofNat ee)), .unset, .unset, .unset] [(.int (Int32.ofNat ee))])) rfl (hb hby d35_1) rfl (own_nn (by omega)) (cap := 103) (by rw [own_clamp (by omega)]; omega) (by decide) (by decide) (by decide)
  obtain ⟨b_1, g_1⟩ : ∃ z, z = h0.size := ⟨_, rfl⟩
  rw [← g_1] at A_1 st_1
  have V_1 : Arv Z h_1 b_1 k_1 .byte (Int32.ofNat ee) [] (.int (0 : Int32)) := Arv.new A_1 (own_nn (by omega))
  refine own_via st_1 ?_
  show own_Go p e below _ (T_1.setTop (mkF m 3 #[.val (.ref a1), .val (.int (0 : Int32)), .val (.int (Int32.ofNat ee)), .unset, .unset, .unset] [(.ref b_1)]))
  have V_2 : Arv Z h_1 b_1 k_1 .byte (Int32.ofNat ee) (List.replicate ee (.int (0 : Int32))) (.int (0 : Int32)) := V_1.pad (pad_rep [] (.int (0 : Int32)) ee)
  refine own_via (fun _ => XS.astoreN X_1.here hx rfl (hb hby d35_3) rfl rfl (l' := #[.val (.ref a1), .val (.int (0 : Int32)), .val (.int (Int32.ofNat ee)), .val (.ref b_1), .unset, .unset]) rfl) ?_
  show own_Go p e below _ (T_1.setTop (mkF m 4 #[.val (.ref a1), .val (.int (0 : Int32)), .val (.int (Int32.ofNat ee)), .val (.ref b_1), .unset, .unset] []))
  refine own_aloadN X_1 hx (hb hby d35_4) (q := 5) rfl rfl rfl ?_
  refine own_iloadN X_1 hx (hb hby d35_5) (q := 6) rfl rfl ?_
  refine own_aloadN X_1 hx (hb hby d35_6) (q := 7) rfl rfl rfl ?_
  refine own_iconst X_1 hx (hb hby d35_7) (q := 8) (z := (0 : Int32)) rfl rfl ?_
  refine own_iloadN X_1 hx (hb hby d35_8) (q := 9) rfl rfl ?_
  have K_3 : Keep h0 h_1 [] := (Keep.refl h0 []).ext E_1
  obtain ⟨_, _, ⟨T_4, L_4, k_4, n_4⟩, -, X_4, ⟨Lc_4, hQ_4, l_4, y_4, z_4⟩, st_4⟩ := Jvm.LawKit.callS X_1 hx (y := (⟨"java/lang/StringUTF16", "compress", "([BI[BII)I"⟩ : MethodName)) hown (mvT hZ (own_w hw 157 rfl)) (mvT hZ (own_w hw 158 rfl)) (mvT hZ (own_w hw 38 rfl)) (mvT hZ (own_w hw 159 rfl)) (by decide) (backOf (W := 0) (rmcmp5b l Z a0 hw [] a1 k1 cs b_1 k_1 ee sf h_1 n0 (Nat.le_trans Z0 K_3.1) (O0.keep K_3 all0) Sad Shi Slo Ssf hsf (A1.keep K_3 nin0) V_2 hl hbd (by omega) (Nat.le_trans Z0 (Nat.le_of_eq g_1.symm)) (Nat.ne_of_lt (Nat.lt_of_lt_of_le A1.lt (Nat.le_of_eq g_1.symm)))) hZ (own_w hw 159 rfl) (own_w hw 38 rfl) (by decide) (by decide)) (g := (mkF m 9 #[.val (.ref a1), .val (.int (0 : Int32)), .val (.int (Int32.ofNat ee)), .val (.ref b_1), .unset, .unset] [(.int (Int32.ofNat ee)), (.int (0 : Int32)), (.ref b_1), (.int (0 : Int32)), (.ref a1)])) rfl (by rw [hml]; rfl) (argsL := [(.ref a1), (.int (0 : Int32)), (.ref b_1), (.int (0 : Int32)), (.int (Int32.ofNat ee))]) (rest := []) (lenOf pd_8 rfl) rfl (by show 2 * 0 + _ ≤ _; exact Nat.le_of_eq rfl) (hb hby d35_9) (fun _ _ => ⟨rfl, e_1, (by decide : 1 + 0 ≤ _), (by decide : 103 + 0 ≤ _)⟩)
  dsimp only [Pt.U, Pt.locs, Pt.cells, Pt.slots] at X_4 l_4 y_4 z_4 st_4 hQ_4
  subst l_4 y_4 z_4
  obtain ⟨u_5, rfl, Nq_4, K_4q, q_4_0, q_4_1⟩ := hQ_4
  have N_4 := Fr.app N0 Nq_4
  refine own_via st_4 ?_
  show own_Go p e below _ (T_4.setTop (mkF m 12 #[.val (.ref a1), .val (.int (0 : Int32)), .val (.int (Int32.ofNat ee)), .val (.ref b_1), .unset, .unset] [(.int (Int32.ofNat u_5))]))
  refine own_via (fun _ => XS.istore X_4.here hx rfl (hb hby d35_12) rfl (l' := #[.val (.ref a1), .val (.int (0 : Int32)), .val (.int (Int32.ofNat ee)), .val (.ref b_1), .val (.int (Int32.ofNat u_5)), .unset]) rfl) ?_
  show own_Go p e below _ (T_4.setTop (mkF m 14 #[.val (.ref a1), .val (.int (0 : Int32)), .val (.int (Int32.ofNat ee)), .val (.ref b_1), .val (.int (Int32.ofNat u_5)), .unset] []))
  refine own_iload X_4 hx (hb hby d35_14) (q := 16) rfl rfl ?_
  refine own_iloadN X_4 hx (hb hby d35_16) (q := 17) rfl rfl ?_
  by_cases hk : u_5 = ee
  · refine own_via (fun _ => XS.icmpYes X_4.here hx rfl (pc0 := 17) (pc' := 64) rfl (hb hby d35_17) rfl (teq (congrArg Int32.ofNat hk : (Int32.ofNat u_5) = (Int32.ofNat ee))).1 (by decide) (by decide)) ?_
    show own_Go p e below _ (T_4.setTop (mkF m 64 #[.val (.ref a1), .val (.int (0 : Int32)), .val (.int (Int32.ofNat ee)), .val (.ref b_1), .val (.int (Int32.ofNat u_5)), .unset] []))
    refine own_aloadN X_4 hx (hb hby d35_64) (q := 65) rfl rfl rfl ?_
    have K_6 : Keep h0 T_4.heap [] := Keep.trans (ws := []) K_3 K_4q (allS (Or.inr (Nat.le_of_eq g_1.symm)) all0)
    exact own_retv X_4 Bd.notSynchronized hx Bd.returns rfl (Or.inr (Or.inr (Or.inr (Or.inr ⟨rfl, rfl, rfl⟩)))) (hb hby d35_65) (by decide) (by decide) ⟨b_1, k_1, (0 : Int32), (Int32.ofNat ee), (own_low (cs.take ee) ee), rfl, N_4, K_6, (Nat.le_of_eq g_1.symm), (own_F0t (by omega) (by have q := q_4_0; rw [hk] at q; exact q)), (by have q := q_4_1; rw [hk] at q; exact q)⟩
  · have hkl : u_5 < ee := by have := q_4_0.1; rw [own_tlen (by omega)] at this; omega
    refine own_via (fun _ => XS.icmpNo X_4.here hx rfl (hb hby d35_17) rfl (feq (fun q => hk ((own_eq (by omega) (by omega)).mp q) : ¬ ((Int32.ofNat u_5) = (Int32.ofNat ee)))).1) ?_
    show own_Go p e below _ (T_4.setTop (mkF m 20 #[.val (.ref a1), .val (.int (0 : Int32)), .val (.int (Int32.ofNat ee)), .val (.ref b_1), .val (.int (Int32.ofNat u_5)), .unset] []))
    refine own_aloadN X_4 hx (hb hby d35_20) (q := 21) rfl rfl rfl ?_
    refine own_iloadN X_4 hx (hb hby d35_21) (q := 22) rfl rfl ?_
    refine own_iconst X_4 hx (hb hby d35_22) (q := 23) (z := (1 : Int32)) rfl rfl ?_
    refine own_via (fun _ => XS.ishl X_4.here hx rfl (hb hby d35_23) rfl) ?_
    show own_Go p e below _ (T_4.setTop (mkF m 24 #[.val (.ref a1), .val (.int (0 : Int32)), .val (.int (Int32.ofNat ee)), .val (.ref b_1), .val (.int (Int32.ofNat u_5)), .unset] [(.int ((0 : Int32) <<< ((1 : Int32) &&& 31))), (.ref a1)]))
    have hz0 : ((0 : Int32) <<< ((1 : Int32) &&& 31)) = (0 : Int32) := by decide +kernel
    rw [hz0]
    show own_Go p e below _ (T_4.setTop (mkF m 24 #[.val (.ref a1), .val (.int (0 : Int32)), .val (.int (Int32.ofNat ee)), .val (.ref b_1), .val (.int (Int32.ofNat u_5)), .unset] [(.int (0 : Int32)), (.ref a1)]))
    refine own_iloadN X_4 hx (hb hby d35_24) (q := 25) rfl rfl ?_
    refine own_iloadN X_4 hx (hb hby d35_25) (q := 26) rfl rfl ?_
    refine own_via (fun _ => XS.iadd X_4.here hx rfl (hb hby d35_26) rfl) ?_
    show own_Go p e below _ (T_4.setTop (mkF m 27 #[.val (.ref a1), .val (.int (0 : Int32)), .val (.int (Int32.ofNat ee)), .val (.ref b_1), .val (.int (Int32.ofNat u_5)), .unset] [(.int ((0 : Int32) + (Int32.ofNat ee))), (.int (0 : Int32)), (.ref a1)]))
    rw [own_add0]
    show own_Go p e below _ (T_4.setTop (mkF m 27 #[.val (.ref a1), .val (.int (0 : Int32)), .val (.int (Int32.ofNat ee)), .val (.ref b_1), .val (.int (Int32.ofNat u_5)), .unset] [(.int (Int32.ofNat ee)), (.int (0 : Int32)), (.ref a1)]))
    have K_7 : Keep h0 T_4.heap [] := Keep.trans (ws := []) K_3 K_4q (allS (Or.inr (Nat.le_of_eq g_1.symm)) all0)
    obtain ⟨_, _, ⟨T_8, L_8, k_8, n_8⟩, -, X_8, ⟨Lc_8, hQ_8, l_8, y_8, z_8⟩, st_8⟩ := Jvm.LawKit.callS X_4 hx (y := (⟨"java/lang/StringUTF16", "newBytesLength", "(I)I"⟩ : MethodName)) hown (mvT hZ (own_w hw 50 rfl)) (mvT hZ (own_w hw 51 rfl)) (mvT hZ (own_w hw 38 rfl)) (mvT hZ (own_w hw 52 rfl)) (by decide) (backOf (W := 2) (rmnbl l Z a0 hw [] ee T_4.heap n0 (Nat.le_trans Z0 K_7.1) (by omega)) hZ (own_w hw 52 rfl) (own_w hw 38 rfl) (by decide) (by decide)) (g := (mkF m 27 #[.val (.ref a1), .val (.int (0 : Int32)), .val (.int (Int32.ofNat ee)), .val (.ref b_1), .val (.int (Int32.ofNat u_5)), .unset] [(.int (Int32.ofNat ee)), (.int (0 : Int32)), (.ref a1)])) rfl (by rw [hml]; rfl) (argsL := [(.int (Int32.ofNat ee))]) (rest := [(.int (0 : Int32)), (.ref a1)]) (lenOf pd_1 rfl) rfl (by show 2 * 0 + _ ≤ _; exact Nat.le_of_eq rfl) (hb hby d35_27) (fun _ _ => ⟨rfl, rfl, (by decide : 1 + 0 ≤ _), (by decide : 103 + 0 ≤ _)⟩)
    dsimp only [Pt.U, Pt.locs, Pt.cells, Pt.slots] at X_8 l_8 y_8 z_8 st_8 hQ_8
    subst l_8 y_8 z_8
    obtain ⟨rfl, Nq_8, e_8⟩ := hQ_8
    have N_8 := Fr.app N_4 Nq_8
    refine own_via st_8 ?_
    show own_Go p e below _ (T_8.setTop (mkF m 30 #[.val (.ref a1), .val (.int (0 : Int32)), .val (.int (Int32.ofNat ee)), .val (.ref b_1), .val (.int (Int32.ofNat u_5)), .unset] [(.int (Int32.ofNat (2 * ee))), (.int (0 : Int32)), (.ref a1)]))
    obtain ⟨_, _, ⟨T_9, L_9, k_9, n_9⟩, -, X_9, ⟨Lc_9, hQ_9, l_9, y_9, z_9⟩, st_9⟩ := Jvm.LawKit.callS X_8 hx (y := (⟨"java/util/Arrays", "copyOfRange", "([BII)[B"⟩ : MethodName)) hown (mvT hZ (own_w hw 169 rfl)) (mvT hZ (own_w hw 170 rfl)) (mvT hZ (own_w hw 171 rfl)) (mvT hZ (own_w hw 172 rfl)) (by decide) (backOf (W := 0) (rmcor l Z a0 hw [] a1 k1 (wideBytes cs) (2 * cs.length) (2 * ee) T_4.heap n0 (Nat.le_trans Z0 K_7.1) (A1.keep K_7 nin0) (own_widelen cs) (by omega) (by omega)) hZ (own_w hw 172 rfl) (own_w hw 171 rfl) (by decide) (by decide)) (g := (mkF m 30 #[.val (.ref a1), .val (.int (0 : Int32)), .val (.int (Int32.ofNat ee)), .val (.ref b_1), .val (.int (Int32.ofNat u_5)), .unset] [(.int (Int32.ofNat (2 * ee))), (.int (0 : Int32)), (.ref a1)])) rfl (by rw [hml]; rfl) (argsL := [(.ref a1), (.int (0 : Int32)), (.int (Int32.ofNat (2 * ee)))]) (rest := []) (lenOf pd_22 rfl) rfl (by show 2 * 0 + _ ≤ _; exact Nat.le_of_eq rfl) (hb hby d35_30) (fun _ _ => ⟨rfl, e_8, (by decide : 1 + 1 ≤ _), (by decide : 103 + 206 ≤ _)⟩)
    dsimp only [Pt.U, Pt.locs, Pt.cells, Pt.slots] at X_9 l_9 y_9 z_9 st_9 hQ_9
    subst l_9 y_9 z_9
    obtain ⟨r_10, u_11, rfl, Nq_9, K_9q, q_9_0, q_9_1⟩ := hQ_9
    have N_9 := Fr.app N_8 Nq_9
    refine own_via st_9 ?_
    show own_Go p e below _ (T_9.setTop (mkF m 33 #[.val (.ref a1), .val (.int (0 : Int32)), .val (.int (Int32.ofNat ee)), .val (.ref b_1), .val (.int (Int32.ofNat u_5)), .unset] [(.ref r_10)]))
    have V_12 : Arv Z T_9.heap r_10 u_11 .byte (Int32.ofNat (2 * (cs.take ee).length)) (wideBytes (cs.take ee)) (.int (0 : Int32)) := by have q := q_9_1; rw [own_widetake] at q; rw [own_tlen (by omega)]; exact q
    refine own_via (fun _ => XS.astore X_9.here hx rfl (hb hby d35_33) rfl rfl (l' := #[.val (.ref a1), .val (.int (0 : Int32)), .val (.int (Int32.ofNat ee)), .val (.ref b_1), .val (.int (Int32.ofNat u_5)), .val (.ref r_10)]) rfl) ?_
    show own_Go p e below _ (T_9.setTop (mkF m 35 #[.val (.ref a1), .val (.int (0 : Int32)), .val (.int (Int32.ofNat ee)), .val (.ref b_1), .val (.int (Int32.ofNat u_5)), .val (.ref r_10)] []))
    refine own_aload X_9 hx (hb hby d35_35) (q := 37) rfl rfl rfl ?_
    refine own_iload X_9 hx (hb hby d35_37) (q := 39) rfl rfl ?_
    have K_13 : Keep h0 T_9.heap [] := Keep.trans (ws := []) K_7 K_9q all0
    obtain ⟨_, _, ⟨T_14, L_14, k_14, n_14⟩, -, X_14, ⟨Lc_14, hQ_14, l_14, y_14, z_14⟩, st_14⟩ := Jvm.LawKit.callS X_9 hx (y := (⟨"java/lang/StringUTF16", "getChar", "([BI)C"⟩ : MethodName)) hown (mvT hZ (own_w hw 60 rfl)) (mvT hZ (own_w hw 61 rfl)) (mvT hZ (own_w hw 38 rfl)) (mvT hZ (own_w hw 62 rfl)) (by decide) (backOf (W := 0) (rmgetChar l Z a0 hw [] r_10 u_11 (cs.take ee) u_5 T_9.heap n0 (Nat.le_trans Z0 K_13.1) (O0.keep K_13 all0) Sad Shi Slo V_12 (by rw [own_tlen (by omega)]; omega) (by rw [own_tlen (by omega)]; exact hkl) (own_tal hbd)) hZ (own_w hw 62 rfl) (own_w hw 38 rfl) (by decide) (by decide)) (g := (mkF m 39 #[.val (.ref a1), .val (.int (0 : Int32)), .val (.int (Int32.ofNat ee)), .val (.ref b_1), .val (.int (Int32.ofNat u_5)), .val (.ref r_10)] [(.int (Int32.ofNat u_5)), (.ref r_10)])) rfl (by rw [hml]; rfl) (argsL := [(.ref r_10), (.int (Int32.ofNat u_5))]) (rest := []) (lenOf pd_7 rfl) rfl (by show 2 * 0 + _ ≤ _; exact Nat.le_of_eq rfl) (hb hby d35_39) (fun _ _ => ⟨rfl, rfl, (by decide : 2 + 0 ≤ _), (by decide : 309 + 0 ≤ _)⟩)
    dsimp only [Pt.U, Pt.locs, Pt.cells, Pt.slots] at X_14 l_14 y_14 z_14 st_14 hQ_14
    subst l_14 y_14 z_14
    obtain ⟨rfl, Nq_14, e_14⟩ := hQ_14
    have N_14 := Fr.app N_9 Nq_14
    refine own_via st_14 ?_
    show own_Go p e below _ (T_14.setTop (mkF m 42 #[.val (.ref a1), .val (.int (0 : Int32)), .val (.int (Int32.ofNat ee)), .val (.ref b_1), .val (.int (Int32.ofNat u_5)), .val (.ref r_10)] [(.int ((cs.take ee).getD u_5 0))]))
    refine own_sipush X_14 hx (hb hby d35_42) (q := 45) (z := (255 : Int32)) rfl rfl ?_
    refine own_via (fun _ => XS.icmpYes X_14.here hx rfl (pc0 := 45) (pc' := 61) rfl (hb hby d35_45) rfl (tlt (q_4_0.2.2 (by rw [own_tlen (by omega)]; exact hkl) : (255 : Int32) < ((cs.take ee).getD u_5 0))).2.2.1 (by decide) (by decide)) ?_
    show own_Go p e below _ (T_14.setTop (mkF m 61 #[.val (.ref a1), .val (.int (0 : Int32)), .val (.int (Int32.ofNat ee)), .val (.ref b_1), .val (.int (Int32.ofNat u_5)), .val (.ref r_10)] []))
    refine own_aload X_14 hx (hb hby d35_61) (q := 63) rfl rfl rfl ?_
    exact own_retv X_14 Bd.notSynchronized hx Bd.returns rfl (Or.inr (Or.inr (Or.inr (Or.inr ⟨rfl, rfl, rfl⟩)))) (hb hby d35_63) (by decide) (by decide) (by rw [e_14]; exact ⟨r_10, u_11, (1 : Int32), (Int32.ofNat (2 * ee)), ((wideBytes cs).take (2 * ee)), rfl, N_14, K_13, (Nat.le_trans K_7.1 q_9_0), (own_F1t (by omega) q_4_0 hk), q_9_1⟩)
theorem d34_0 : decode jdk_52_method_69_code 0 = .ok (.iload_n 2, 1) := by decide +kernel
theorem d34_1 : decode jdk_52_method_69_code 1 = .ok (.ifCond .ne 7, 3) := by decide +kernel
theorem d34_8 : decode jdk_52_method_69_code 8 = .ok (.getstatic 251, 3) := by decide +kernel
theorem d34_11 : decode jdk_52_method_69_code 11 = .ok (.ifCond .eq 28, 3) := by decide +kernel
theorem d34_14 : decode jdk_52_method_69_code 14 = .ok (.aload_n 0, 1) := by decide +kernel
theorem d34_15 : decode jdk_52_method_69_code 15 = .ok (.iload_n 1, 1) := by decide +kernel
theorem d34_16 : decode jdk_52_method_69_code 16 = .ok (.iload_n 2, 1) := by decide +kernel
theorem d34_17 : decode jdk_52_method_69_code 17 = .ok (.invokestatic 257, 3) := by decide +kernel
theorem d34_20 : decode jdk_52_method_69_code 20 = .ok (.astore_n 3, 1) := by decide +kernel
theorem d34_21 : decode jdk_52_method_69_code 21 = .ok (.aload_n 3, 1) := by decide +kernel
theorem d34_22 : decode jdk_52_method_69_code 22 = .ok (.iload_n 2, 1) := by decide +kernel
theorem d34_23 : decode jdk_52_method_69_code 23 = .ok (.invokestatic 259, 3) := by decide +kernel
theorem d34_26 : decode jdk_52_method_69_code 26 = .ok (.istore 4, 2) := by decide +kernel
theorem d34_28 : decode jdk_52_method_69_code 28 = .ok (.new 3, 3) := by decide +kernel
theorem d34_31 : decode jdk_52_method_69_code 31 = .ok (.dup, 1) := by decide +kernel
theorem d34_32 : decode jdk_52_method_69_code 32 = .ok (.aload_n 3, 1) := by decide +kernel
theorem d34_33 : decode jdk_52_method_69_code 33 = .ok (.iload 4, 2) := by decide +kernel
theorem d34_35 : decode jdk_52_method_69_code 35 = .ok (.invokespecial 263, 3) := by decide +kernel
theorem d34_38 : decode jdk_52_method_69_code 38 = .ok (.areturn, 1) := by decide +kernel
theorem ef_nsU (m : MethodId) (a1 : Addr) (ee : Nat) : entryFrame m #[(.ref a1), (.int (0 : Int32)), (.int (Int32.ofNat ee))] 5 = mkF m 0 #[.val (.ref a1), .val (.int (0 : Int32)), .val (.int (Int32.ofNat ee)), .unset, .unset] [] := by first | (simp [entryFrame, mkF, argsToLocals, Value.category]; done) | rfl
def QnsU (Z : State) (a1 : Addr) (k1 : ClassId) (cs : List Int32) (ee : Nat) (cz : Int32) (sf : Value) (h0 : Heap) (n0 : Nat) (v : Option Value) (h : Heap) (L : List Loc) : Prop := ∃ r : Addr, v = some (.ref r) ∧ Fr n0 L ∧ Keep h0 h [] ∧ (own_S Z h r (cs.take ee))
theorem rmnsU (l : Launch) (Z : State) (a0 : Array Value) (hw : ∀ d ∈ tables_1, d.before a0 Z = true) (ws : List Jvm.Cond) (a1 : Addr) (k1 : ClassId) (cs : List Int32) (ee : Nat) (cz : Int32) (sf : Value) (h0 : Heap) (n0 : Nat) (Z0 : n0 ≤ h0.size) (O0 : Old Z n0 h0) (Sad : Sta Z Z.heap "java/lang/StringUTF16" "$assertionsDisabled" "Z" (.int (1 : Int32))) (Shi : Sta Z Z.heap "java/lang/StringUTF16" "HI_BYTE_SHIFT" "I" (.int (0 : Int32))) (Slo : Sta Z Z.heap "java/lang/StringUTF16" "LO_BYTE_SHIFT" "I" (.int (8 : Int32))) (Scs : Sta Z Z.heap "java/lang/String" "COMPACT_STRINGS" "Z" (.int cz)) (hcs : ¬ (cz = (0 : Int32))) (Ssf : Sta Z Z.heap "jdk/internal/util/Preconditions" "SIOOBE_FORMATTER" "Ljava/util/function/BiFunction;" sf) (hsf : sf.isRef = true) (A1 : Arv Z h0 a1 k1 .byte (Int32.ofNat (2 * cs.length)) (wideBytes cs) (.int (0 : Int32))) (hl : cs.length ≤ 103) (hbd : ∀ c ∈ cs, ¬ c < 0 ∧ ¬ (65535 : Int32) < c) (he : ee < cs.length) (he0 : 0 < ee) :
    MetFree l (⟨"java/lang/StringUTF16", "newString", "([BII)Ljava/lang/String;"⟩ : MethodName) (head1 (Jvm.Cond.code (⟨"java/lang/StringUTF16", "newString", "([BII)Ljava/lang/String;"⟩ : MethodName) jdk_52_method_69_code 5 (some (.object "java/lang/String")) :: ws) ({ frames := 5, cells := 3, slots := 313, locals := 100 } : Room)) (fun a U => a = #[(.ref a1), (.int (0 : Int32)), (.int (Int32.ofNat ee))] ∧ Z.Warmed39 U.vm ∧ U.heap = h0) (fun _ _ _ _ _ => True) (fun _ U o U' => ∃ v L, o = .returned v ∧ QnsU Z a1 k1 cs ee cz sf h0 n0 v U'.heap L ∧ FrameEnd U o U' L ({ frames := 5, cells := 3, slots := 313, locals := 100 } : Room).cells ({ frames := 5, cells := 3, slots := 313, locals := 100 } : Room).slots) := by
  refine MetFree.of_bodySF (plainFor_of_name pn_java_lang_StringUTF16) hisR ?_
  intro p e s m args below meth c s₁ Bd hml0 hP hK
  obtain ⟨rfl, hZ, hH0⟩ := hP
  have hx := Bd.exec
  have hby := Bd.bytes
  have hml : c.maxLocals = 5 := hml0
  have hown : s.vm.findClass "java/lang/StringUTF16" = some m.cls := findClass_of_methodNamed Bd.named
  have hnm := (name_of_methodNamed Bd.named Bd.method).1
  have X0 : Stand p l e ({ frames := 5, cells := 3, slots := 313, locals := 100 } : Room) s m #[(.ref a1), (.int (0 : Int32)), (.int (Int32.ofNat ee))] below meth c s₁ [] 0 0 := Stand.of_body Bd
  have e0 : s₁.heap = h0 := by rw [← hH0, Bd.state]; rfl
  have N0 := Fr.nil n0
  refine own_cast (ef_nsU m a1 ee) ?_
  show own_Go p e below (fun o U' => ∃ v L, o = .returned v ∧ QnsU Z a1 k1 cs ee cz sf h0 n0 v U'.heap L ∧ FrameEnd s o U' L ({ frames := 5, cells := 3, slots := 313, locals := 100 } : Room).cells ({ frames := 5, cells := 3, slots := 313, locals := 100 } : Room).slots) (s₁.setTop (mkF m 0 #[.val (.ref a1), .val (.int (0 : Int32)), .val (.int (Int32.ofNat ee)), .unset, .unset] []))
  refine own_iloadN X0 hx (hb hby d34_0) (q := 1) rfl rfl ?_
  refine own_via (fun _ => XS.ifYes X0.here hx rfl (pc0 := 1) (pc' := 8) rfl (hb hby d34_1) rfl ((if0 _ _).trans (feq (fun q => absurd ((own_eq (i := ee) (j := 0) (by omega) (by decide)).mp q) (by omega) : ¬ ((Int32.ofNat ee) = (0 : Int32)))).2) (by decide) (by decide)) ?_
  show own_Go p e below _ (s₁.setTop (mkF m 8 #[.val (.ref a1), .val (.int (0 : Int32)), .val (.int (Int32.ofNat ee)), .unset, .unset] []))
  obtain ⟨T_1, X_1, e_1, st_1⟩ := getS2 X0 hx hZ hown (host := "") (Or.inl (own_w hw 153 rfl)) Via.refl e0 (Scs.ext O0.2) (g := (mkF m 8 #[.val (.ref a1), .val (.int (0 : Int32)), .val (.int (Int32.ofNat ee)), .unset, .unset] [])) rfl (hb hby d34_8)
  refine own_via st_1 ?_
  show own_Go p e below _ (T_1.setTop (mkF m 11 #[.val (.ref a1), .val (.int (0 : Int32)), .val (.int (Int32.ofNat ee)), .unset, .unset] [(.int cz)]))
  refine own_via (fun _ => XS.ifNo X_1.here hx rfl (hb hby d34_11) rfl ((if0 _ _).trans (feq (hcs : ¬ (cz = (0 : Int32)))).1)) ?_
  show own_Go p e below _ (T_1.setTop (mkF m 14 #[.val (.ref a1), .val (.int (0 : Int32)), .val (.int (Int32.ofNat ee)), .unset, .unset] []))
  refine own_aloadN X_1 hx (hb hby d34_14) (q := 15) rfl rfl rfl ?_
  refine own_iloadN X_1 hx (hb hby d34_15) (q := 16) rfl rfl ?_
  refine own_iloadN X_1 hx (hb hby d34_16) (q := 17) rfl rfl ?_
  obtain ⟨_, _, ⟨T_2, L_2, k_2, n_2⟩, -, X_2, ⟨Lc_2, hQ_2, l_2, y_2, z_2⟩, st_2⟩ := Jvm.LawKit.callS X_1 hx (y := (⟨"java/lang/StringUTF16", "compress", "([BII)[B"⟩ : MethodName)) hown (mvT hZ (own_w hw 154 rfl)) (mvT hZ (own_w hw 155 rfl)) (mvT hZ (own_w hw 38 rfl)) (mvT hZ (own_w hw 156 rfl)) (by decide) (backOf (W := 0) (rmcmp3b l Z a0 hw [] a1 k1 cs ee sf h0 n0 Z0 O0 Sad Shi Slo Ssf hsf A1 hl hbd he he0) hZ (own_w hw 156 rfl) (own_w hw 38 rfl) (by decide) (by decide)) (g := (mkF m 17 #[.val (.ref a1), .val (.int (0 : Int32)), .val (.int (Int32.ofNat ee)), .unset, .unset] [(.int (Int32.ofNat ee)), (.int (0 : Int32)), (.ref a1)])) rfl (by rw [hml]; rfl) (argsL := [(.ref a1), (.int (0 : Int32)), (.int (Int32.ofNat ee))]) (rest := []) (lenOf pd_22 rfl) rfl (by show 2 * 0 + _ ≤ _; exact Nat.le_of_eq rfl) (hb hby d34_17) (fun _ _ => ⟨rfl, e_1, (by decide : 0 + 2 ≤ _), (by decide : 0 + 309 ≤ _)⟩)
  dsimp only [Pt.U, Pt.locs, Pt.cells, Pt.slots] at X_2 l_2 y_2 z_2 st_2 hQ_2
  subst l_2 y_2 z_2
  obtain ⟨r_3, u_4, i_5, i_6, u_7, rfl, Nq_2, K_2q, q_2_0, q_2_1, q_2_2⟩ := hQ_2
  have N_2 := Fr.app N0 Nq_2
  refine own_via st_2 ?_
  show own_Go p e below _ (T_2.setTop (mkF m 20 #[.val (.ref a1), .val (.int (0 : Int32)), .val (.int (Int32.ofNat ee)), .unset, .unset] [(.ref r_3)]))
  refine own_via (fun _ => XS.astoreN X_2.here hx rfl (hb hby d34_20) rfl rfl (l' := #[.val (.ref a1), .val (.int (0 : Int32)), .val (.int (Int32.ofNat ee)), .val (.ref r_3), .unset]) rfl) ?_
  show own_Go p e below _ (T_2.setTop (mkF m 21 #[.val (.ref a1), .val (.int (0 : Int32)), .val (.int (Int32.ofNat ee)), .val (.ref r_3), .unset] []))
  refine own_aloadN X_2 hx (hb hby d34_21) (q := 22) rfl rfl rfl ?_
  refine own_iloadN X_2 hx (hb hby d34_22) (q := 23) rfl rfl ?_
  have htl := own_tlen (cs := cs) (ee := ee) (by omega)
  rcases q_2_1 with ⟨rfl, rfl, rfl, hal⟩ | ⟨rfl, rfl, rfl, hal⟩
  · have V_8 : Arv Z T_2.heap r_3 u_4 .byte (Int32.ofNat ee) ((cs.take ee).map fun c => Value.int (lo8 c)) (.int (0 : Int32)) := by have q := q_2_2; rwa [htl] at q
    have K_9 : Keep h0 T_2.heap [] := Keep.trans (ws := []) (Keep.refl h0 []) K_2q all0
    obtain ⟨_, _, ⟨T_10, L_10, k_10, n_10⟩, -, X_10, ⟨Lc_10, hQ_10, l_10, y_10, z_10⟩, st_10⟩ := Jvm.LawKit.callS X_2 hx (y := (⟨"java/lang/StringUTF16", "coderFromArrayLen", "([BI)B"⟩ : MethodName)) hown (mvT hZ (own_w hw 187 rfl)) (mvT hZ (own_w hw 64 rfl)) (mvT hZ (own_w hw 38 rfl)) (mvT hZ (own_w hw 65 rfl)) (by decide) (backOf (W := 0) (rmcdr0 l Z a0 hw [] r_3 u_4 ee ((cs.take ee).map fun c => Value.int (lo8 c)) T_2.heap n0 (Nat.le_trans Z0 K_9.1) V_8 (by omega)) hZ (own_w hw 65 rfl) (own_w hw 38 rfl) (by decide) (by decide)) (g := (mkF m 23 #[.val (.ref a1), .val (.int (0 : Int32)), .val (.int (Int32.ofNat ee)), .val (.ref r_3), .unset] [(.int (Int32.ofNat ee)), (.ref r_3)])) rfl (by rw [hml]; rfl) (argsL := [(.ref r_3), (.int (Int32.ofNat ee))]) (rest := []) (lenOf pd_10 rfl) rfl (by show 2 * 0 + _ ≤ _; exact Nat.le_of_eq rfl) (hb hby d34_23) (fun _ _ => ⟨rfl, rfl, (by decide : 2 + 0 ≤ _), (by decide : 309 + 0 ≤ _)⟩)
    dsimp only [Pt.U, Pt.locs, Pt.cells, Pt.slots] at X_10 l_10 y_10 z_10 st_10 hQ_10
    subst l_10 y_10 z_10
    obtain ⟨rfl, Nq_10, e_10⟩ := hQ_10
    have N_10 := Fr.app N_2 Nq_10
    refine own_via st_10 ?_
    show own_Go p e below _ (T_10.setTop (mkF m 26 #[.val (.ref a1), .val (.int (0 : Int32)), .val (.int (Int32.ofNat ee)), .val (.ref r_3), .unset] [(.int (0 : Int32))]))
    refine own_via (fun _ => XS.istore X_10.here hx rfl (hb hby d34_26) rfl (l' := #[.val (.ref a1), .val (.int (0 : Int32)), .val (.int (Int32.ofNat ee)), .val (.ref r_3), .val (.int (0 : Int32))]) rfl) ?_
    show own_Go p e below _ (T_10.setTop (mkF m 28 #[.val (.ref a1), .val (.int (0 : Int32)), .val (.int (Int32.ofNat ee)), .val (.ref r_3), .val (.int (0 : Int32))] []))
    obtain ⟨T_11, h_11, X_11, e_11, E_11, A_11, D_11, -, st_11⟩ := newO X_10 hx hZ hown (own_w hw 188 rfl) (own_w hw 23 rfl) (own_w hw 24 rfl) e_10 (g := (mkF m 28 #[.val (.ref a1), .val (.int (0 : Int32)), .val (.int (Int32.ofNat ee)), .val (.ref r_3), .val (.int (0 : Int32))] [])) rfl (hb hby d34_28) (by decide) (by decide)
    obtain ⟨b_11, g_11⟩ : ∃ z, z = T_2.heap.size := ⟨_, rfl⟩
    rw [← g_11] at A_11 D_11 st_11
    have F_12 : Fld Z h_11 b_11 "java/lang/String" "coder" "B" (.int (0 : Int32)) := D_11 (Or.inr (own_w hw 67 rfl)) (ty := .byte) (by decide)
    have F_13 : Fld Z h_11 b_11 "java/lang/String" "value" "[B" .null := D_11 (Or.inr (own_w hw 69 rfl)) (ty := (.array .byte)) (by decide)
    refine own_via st_11 ?_
    show own_Go p e below _ (T_11.setTop (mkF m 31 #[.val (.ref a1), .val (.int (0 : Int32)), .val (.int (Int32.ofNat ee)), .val (.ref r_3), .val (.int (0 : Int32))] [(.ref b_11)]))
    refine own_dup X_11 hx (hb hby d34_31) (q := 32) rfl rfl ?_
    refine own_aloadN X_11 hx (hb hby d34_32) (q := 33) rfl rfl rfl ?_
    refine own_iload X_11 hx (hb hby d34_33) (q := 35) rfl rfl ?_
    have K_14 : Keep h0 h_11 [] := K_9.ext E_11
    obtain ⟨_, _, ⟨T_15, L_15, k_15, n_15⟩, -, X_15, ⟨Lc_15, hQ_15, l_15, y_15, z_15⟩, st_15⟩ := X_11.specialBack hx (y := (⟨"java/lang/String", "<init>", "([BB)V"⟩ : MethodName)) rfl hown (mvT hZ (own_w hw 189 rfl)) (mvT hZ (own_w hw 190 rfl)) (mvT hZ (own_w hw 191 rfl)) (by decide) (backOf (W := 1) (rmstrBB0 l Z a0 hw [] b_11 r_3 h_11 n0 (Nat.le_trans Z0 K_14.1) A_11 F_13 F_12 (Nat.le_trans Z0 (Nat.le_trans K_9.1 (Nat.le_of_eq g_11.symm)))) hZ (own_w hw 191 rfl) (own_w hw 24 rfl) (by decide) (by decide)) (g := (mkF m 35 #[.val (.ref a1), .val (.int (0 : Int32)), .val (.int (Int32.ofNat ee)), .val (.ref r_3), .val (.int (0 : Int32))] [(.int (0 : Int32)), (.ref r_3), (.ref b_11), (.ref b_11)])) rfl (by rw [hml]; rfl) (Steps.refl _) (a := b_11) (argsL := [(.ref r_3), (.int (0 : Int32))]) (rest := [(.ref b_11)]) (lenOf pd_23 rfl) rfl (by show 2 * 0 + _ ≤ _; exact Nat.le_of_eq rfl) (hb hby d34_35) (fun _ _ => ⟨rfl, e_11, (by decide : 3 + 0 ≤ _), (by decide : 313 + 0 ≤ _)⟩)
    dsimp only [Pt.U, Pt.locs, Pt.cells, Pt.slots] at X_15 l_15 y_15 z_15 st_15 hQ_15
    subst l_15 y_15 z_15
    obtain ⟨rfl, Nq_15, K_15q, q_15_0, q_15_1⟩ := hQ_15
    have N_15 := Fr.app N_10 Nq_15
    refine own_via (fun _ k => st_15.trans k) ?_
    show own_Go p e below _ (T_15.setTop (mkF m 38 #[.val (.ref a1), .val (.int (0 : Int32)), .val (.int (Int32.ofNat ee)), .val (.ref r_3), .val (.int (0 : Int32))] [(.ref b_11)]))
    have K_16 : Keep h_11 T_15.heap [b_11] := Keep.trans (ws := [b_11]) (own_keep_mono (Keep.refl h_11 []) (by simp)) K_15q (allS (Or.inl (List.mem_of_getElem? (i := 0) rfl)) all0)
    have K_17 : Keep T_2.heap h_11 [] := (Keep.refl T_2.heap []).ext E_11
    have K_18 : Keep T_2.heap T_15.heap [] := Keep.trans (ws := []) K_17 K_15q (allS (Or.inr (Nat.le_of_eq g_11.symm)) all0)
    have K_19 : Keep h0 T_15.heap [] := Keep.trans (ws := []) K_14 K_15q (allS (Or.inr (Nat.le_trans K_9.1 (Nat.le_of_eq g_11.symm))) all0)
    exact own_retv X_15 Bd.notSynchronized hx Bd.returns rfl (Or.inr (Or.inr (Or.inr (Or.inr ⟨rfl, rfl, rfl⟩)))) (hb hby d34_38) (by decide) (by decide) ⟨b_11, rfl, N_15, K_19, ⟨(A_11.keep K_16), ⟨r_3, u_4, _, _, _, q_15_1, q_15_0, (V_8.keep K_18 nin0), (Or.inl ⟨rfl, by rw [htl], rfl, hal⟩)⟩, (own_tal hbd), (by omega)⟩⟩
  · have V_20 : Arv Z T_2.heap r_3 u_4 .byte (Int32.ofNat (2 * ee)) (wideBytes (cs.take ee)) (.int (0 : Int32)) := by have q := q_2_2; rwa [htl] at q
    have K_21 : Keep h0 T_2.heap [] := Keep.trans (ws := []) (Keep.refl h0 []) K_2q all0
    obtain ⟨_, _, ⟨T_22, L_22, k_22, n_22⟩, -, X_22, ⟨Lc_22, hQ_22, l_22, y_22, z_22⟩, st_22⟩ := Jvm.LawKit.callS X_2 hx (y := (⟨"java/lang/StringUTF16", "coderFromArrayLen", "([BI)B"⟩ : MethodName)) hown (mvT hZ (own_w hw 187 rfl)) (mvT hZ (own_w hw 64 rfl)) (mvT hZ (own_w hw 38 rfl)) (mvT hZ (own_w hw 65 rfl)) (by decide) (backOf (W := 0) (rmcdr1 l Z a0 hw [] r_3 u_4 ee (wideBytes (cs.take ee)) T_2.heap n0 (Nat.le_trans Z0 K_21.1) V_20 (by omega) he0) hZ (own_w hw 65 rfl) (own_w hw 38 rfl) (by decide) (by decide)) (g := (mkF m 23 #[.val (.ref a1), .val (.int (0 : Int32)), .val (.int (Int32.ofNat ee)), .val (.ref r_3), .unset] [(.int (Int32.ofNat ee)), (.ref r_3)])) rfl (by rw [hml]; rfl) (argsL := [(.ref r_3), (.int (Int32.ofNat ee))]) (rest := []) (lenOf pd_10 rfl) rfl (by show 2 * 0 + _ ≤ _; exact Nat.le_of_eq rfl) (hb hby d34_23) (fun _ _ => ⟨rfl, rfl, (by decide : 2 + 0 ≤ _), (by decide : 309 + 0 ≤ _)⟩)
    dsimp only [Pt.U, Pt.locs, Pt.cells, Pt.slots] at X_22 l_22 y_22 z_22 st_22 hQ_22
    subst l_22 y_22 z_22
    obtain ⟨rfl, Nq_22, e_22⟩ := hQ_22
    have N_22 := Fr.app N_2 Nq_22
    refine own_via st_22 ?_
    show own_Go p e below _ (T_22.setTop (mkF m 26 #[.val (.ref a1), .val (.int (0 : Int32)), .val (.int (Int32.ofNat ee)), .val (.ref r_3), .unset] [(.int (1 : Int32))]))
    refine own_via (fun _ => XS.istore X_22.here hx rfl (hb hby d34_26) rfl (l' := #[.val (.ref a1), .val (.int (0 : Int32)), .val (.int (Int32.ofNat ee)), .val (.ref r_3), .val (.int (1 : Int32))]) rfl) ?_
    show own_Go p e below _ (T_22.setTop (mkF m 28 #[.val (.ref a1), .val (.int (0 : Int32)), .val (.int (Int32.ofNat ee)), .val (.ref r_3), .val (.int (1 : Int32))] []))
    obtain ⟨T_23, h_23, X_23, e_23, E_23, A_23, D_23, -, st_23⟩ := newO X_22 hx hZ hown (own_w hw 188 rfl) (own_w hw 23 rfl) (own_w hw 24 rfl) e_22 (g := (mkF m 28 #[.val (.ref a1), .val (.int (0 : Int32)), .val (.int (Int32.ofNat ee)), .val (.ref r_3), .val (.int (1 : Int32))] [])) rfl (hb hby d34_28) (by decide) (by decide)
    obtain ⟨b_23, g_23⟩ : ∃ z, z = T_2.heap.size := ⟨_, rfl⟩
    rw [← g_23] at A_23 D_23 st_23
    have F_24 : Fld Z h_23 b_23 "java/lang/String" "coder" "B" (.int (0 : Int32)) := D_23 (Or.inr (own_w hw 67 rfl)) (ty := .byte) (by decide)
    have F_25 : Fld Z h_23 b_23 "java/lang/String" "value" "[B" .null := D_23 (Or.inr (own_w hw 69 rfl)) (ty := (.array .byte)) (by decide)
    refine own_via st_23 ?_
    show own_Go p e below _ (T_23.setTop (mkF m 31 #[.val (.ref a1), .val (.int (0 : Int32)), .val (.int (Int32.ofNat ee)), .val (.ref r_3), .val (.int (1 : Int32))] [(.ref b_23)]))
    refine own_dup X_23 hx (hb hby d34_31) (q := 32) rfl rfl ?_
    refine own_aloadN X_23 hx (hb hby d34_32) (q := 33) rfl rfl rfl ?_
    refine own_iload X_23 hx (hb hby d34_33) (q := 35) rfl rfl ?_
    have K_26 : Keep h0 h_23 [] := K_21.ext E_23
    obtain ⟨_, _, ⟨T_27, L_27, k_27, n_27⟩, -, X_27, ⟨Lc_27, hQ_27, l_27, y_27, z_27⟩, st_27⟩ := X_23.specialBack hx (y := (⟨"java/lang/String", "<init>", "([BB)V"⟩ : MethodName)) rfl hown (mvT hZ (own_w hw 189 rfl)) (mvT hZ (own_w hw 190 rfl)) (mvT hZ (own_w hw 191 rfl)) (by decide) (backOf (W := 1) (rmstrBB1 l Z a0 hw [] b_23 r_3 h_23 n0 (Nat.le_trans Z0 K_26.1) A_23 F_25 F_24 (Nat.le_trans Z0 (Nat.le_trans K_21.1 (Nat.le_of_eq g_23.symm)))) hZ (own_w hw 191 rfl) (own_w hw 24 rfl) (by decide) (by decide)) (g := (mkF m 35 #[.val (.ref a1), .val (.int (0 : Int32)), .val (.int (Int32.ofNat ee)), .val (.ref r_3), .val (.int (1 : Int32))] [(.int (1 : Int32)), (.ref r_3), (.ref b_23), (.ref b_23)])) rfl (by rw [hml]; rfl) (Steps.refl _) (a := b_23) (argsL := [(.ref r_3), (.int (1 : Int32))]) (rest := [(.ref b_23)]) (lenOf pd_23 rfl) rfl (by show 2 * 0 + _ ≤ _; exact Nat.le_of_eq rfl) (hb hby d34_35) (fun _ _ => ⟨rfl, e_23, (by decide : 3 + 0 ≤ _), (by decide : 313 + 0 ≤ _)⟩)
    dsimp only [Pt.U, Pt.locs, Pt.cells, Pt.slots] at X_27 l_27 y_27 z_27 st_27 hQ_27
    subst l_27 y_27 z_27
    obtain ⟨rfl, Nq_27, K_27q, q_27_0, q_27_1⟩ := hQ_27
    have N_27 := Fr.app N_22 Nq_27
    refine own_via (fun _ k => st_27.trans k) ?_
    show own_Go p e below _ (T_27.setTop (mkF m 38 #[.val (.ref a1), .val (.int (0 : Int32)), .val (.int (Int32.ofNat ee)), .val (.ref r_3), .val (.int (1 : Int32))] [(.ref b_23)]))
    have K_28 : Keep h_23 T_27.heap [b_23] := Keep.trans (ws := [b_23]) (own_keep_mono (Keep.refl h_23 []) (by simp)) K_27q (allS (Or.inl (List.mem_of_getElem? (i := 0) rfl)) all0)
    have K_29 : Keep T_2.heap h_23 [] := (Keep.refl T_2.heap []).ext E_23
    have K_30 : Keep T_2.heap T_27.heap [] := Keep.trans (ws := []) K_29 K_27q (allS (Or.inr (Nat.le_of_eq g_23.symm)) all0)
    have K_31 : Keep h0 T_27.heap [] := Keep.trans (ws := []) K_26 K_27q (allS (Or.inr (Nat.le_trans K_21.1 (Nat.le_of_eq g_23.symm))) all0)
    exact own_retv X_27 Bd.notSynchronized hx Bd.returns rfl (Or.inr (Or.inr (Or.inr (Or.inr ⟨rfl, rfl, rfl⟩)))) (hb hby d34_38) (by decide) (by decide) ⟨b_23, rfl, N_27, K_31, ⟨(A_23.keep K_28), ⟨r_3, u_4, _, _, _, q_27_1, q_27_0, (V_20.keep K_30 nin0), (Or.inr ⟨rfl, by rw [htl], rfl, hal⟩)⟩, (own_tal hbd), (by omega)⟩⟩
theorem d33_0 : decode jdk_41_method_12_code 0 = .ok (.iload_n 0, 1) := by decide +kernel
theorem d33_1 : decode jdk_41_method_12_code 1 = .ok (.ifCond .lt 13, 3) := by decide +kernel
theorem d33_4 : decode jdk_41_method_12_code 4 = .ok (.iload_n 0, 1) := by decide +kernel
theorem d33_5 : decode jdk_41_method_12_code 5 = .ok (.iload_n 1, 1) := by decide +kernel
theorem d33_6 : decode jdk_41_method_12_code 6 = .ok (.if_icmp .gt 8, 3) := by decide +kernel
theorem d33_9 : decode jdk_41_method_12_code 9 = .ok (.iload_n 1, 1) := by decide +kernel
theorem d33_10 : decode jdk_41_method_12_code 10 = .ok (.iload_n 2, 1) := by decide +kernel
theorem d33_11 : decode jdk_41_method_12_code 11 = .ok (.if_icmp .le 11, 3) := by decide +kernel
theorem d33_22 : decode jdk_41_method_12_code 22 = .ok (.iload_n 0, 1) := by decide +kernel
theorem d33_23 : decode jdk_41_method_12_code 23 = .ok (.ireturn, 1) := by decide +kernel
theorem ef_cfti (m : MethodId) (sf : Value) (ee : Nat) (n : Nat) (hrsf : sf.isRef = true) : entryFrame m #[(.int (0 : Int32)), (.int (Int32.ofNat ee)), (.int (Int32.ofNat n)), sf] 4 = mkF m 0 #[.val (.int (0 : Int32)), .val (.int (Int32.ofNat ee)), .val (.int (Int32.ofNat n)), .val sf] [] := by rcases ref_cases hrsf with rfl | ⟨ysf, rfl⟩ <;>  first | (simp [entryFrame, mkF, argsToLocals, Value.category]; done) | rfl
def Qcfti (Z : State) (ee : Nat) (n : Nat) (sf : Value) (h0 : Heap) (n0 : Nat) (v : Option Value) (h : Heap) (L : List Loc) : Prop := v = some (.int (0 : Int32)) ∧ Fr n0 L ∧ h = h0
theorem rmcfti (l : Launch) (Z : State) (a0 : Array Value) (hw : ∀ d ∈ tables_1, d.before a0 Z = true) (ws : List Jvm.Cond) (ee : Nat) (n : Nat) (sf : Value) (h0 : Heap) (n0 : Nat) (Z0 : n0 ≤ h0.size) (hsf : sf.isRef = true) (he : ee ≤ n) (hn : n ≤ 103) :
    MetFree l (⟨"jdk/internal/util/Preconditions", "checkFromToIndex", "(IIILjava/util/function/BiFunction;)I"⟩ : MethodName) (head1 (Jvm.Cond.code (⟨"jdk/internal/util/Preconditions", "checkFromToIndex", "(IIILjava/util/function/BiFunction;)I"⟩ : MethodName) jdk_41_method_12_code 4 (some .int) :: ws) ({ frames := 0, cells := 0, slots := 0, locals := 0 } : Room)) (fun a U => a = #[(.int (0 : Int32)), (.int (Int32.ofNat ee)), (.int (Int32.ofNat n)), sf] ∧ Z.Warmed39 U.vm ∧ U.heap = h0) (fun _ _ _ _ _ => True) (fun _ U o U' => ∃ v L, o = .returned v ∧ Qcfti Z ee n sf h0 n0 v U'.heap L ∧ FrameEnd U o U' L ({ frames := 0, cells := 0, slots := 0, locals := 0 } : Room).cells ({ frames := 0, cells := 0, slots := 0, locals := 0 } : Room).slots) := by
  refine MetFree.of_bodySF (plainFor_of_name pn_jdk_internal_util_Preconditions) hisR ?_
  intro p e s m args below meth c s₁ Bd hml0 hP hK
  obtain ⟨rfl, hZ, hH0⟩ := hP
  have hx := Bd.exec
  have hby := Bd.bytes
  have hml : c.maxLocals = 4 := hml0
  have hown : s.vm.findClass "jdk/internal/util/Preconditions" = some m.cls := findClass_of_methodNamed Bd.named
  have hnm := (name_of_methodNamed Bd.named Bd.method).1
  have X0 : Stand p l e ({ frames := 0, cells := 0, slots := 0, locals := 0 } : Room) s m #[(.int (0 : Int32)), (.int (Int32.ofNat ee)), (.int (Int32.ofNat n)), sf] below meth c s₁ [] 0 0 := Stand.of_body Bd
  have e0 : s₁.heap = h0 := by rw [← hH0, Bd.state]; rfl
  have N0 := Fr.nil n0
  refine own_cast (ef_cfti m sf ee n hsf) ?_
  show own_Go p e below (fun o U' => ∃ v L, o = .returned v ∧ Qcfti Z ee n sf h0 n0 v U'.heap L ∧ FrameEnd s o U' L ({ frames := 0, cells := 0, slots := 0, locals := 0 } : Room).cells ({ frames := 0, cells := 0, slots := 0, locals := 0 } : Room).slots) (s₁.setTop (mkF m 0 #[.val (.int (0 : Int32)), .val (.int (Int32.ofNat ee)), .val (.int (Int32.ofNat n)), .val sf] []))
  refine own_iloadN X0 hx (hb hby d33_0) (q := 1) rfl rfl ?_
  refine own_via (fun _ => XS.ifNo X0.here hx rfl (hb hby d33_1) rfl ((if0 _ _).trans (flt ((by decide) : ¬ ((0 : Int32) < (0 : Int32)))).1)) ?_
  show own_Go p e below _ (s₁.setTop (mkF m 4 #[.val (.int (0 : Int32)), .val (.int (Int32.ofNat ee)), .val (.int (Int32.ofNat n)), .val sf] []))
  refine own_iloadN X0 hx (hb hby d33_4) (q := 5) rfl rfl ?_
  refine own_iloadN X0 hx (hb hby d33_5) (q := 6) rfl rfl ?_
  refine own_via (fun _ => XS.icmpNo X0.here hx rfl (hb hby d33_6) rfl (flt (own_nn (by omega) : ¬ ((Int32.ofNat ee) < (0 : Int32)))).2.2.1) ?_
  show own_Go p e below _ (s₁.setTop (mkF m 9 #[.val (.int (0 : Int32)), .val (.int (Int32.ofNat ee)), .val (.int (Int32.ofNat n)), .val sf] []))
  refine own_iloadN X0 hx (hb hby d33_9) (q := 10) rfl rfl ?_
  refine own_iloadN X0 hx (hb hby d33_10) (q := 11) rfl rfl ?_
  refine own_via (fun _ => XS.icmpYes X0.here hx rfl (pc0 := 11) (pc' := 22) rfl (hb hby d33_11) rfl (flt (fun q => absurd ((own_lt (by omega) (by omega)).mp q) (by omega) : ¬ ((Int32.ofNat n) < (Int32.ofNat ee)))).2.2.2 (by decide) (by decide)) ?_
  show own_Go p e below _ (s₁.setTop (mkF m 22 #[.val (.int (0 : Int32)), .val (.int (Int32.ofNat ee)), .val (.int (Int32.ofNat n)), .val sf] []))
  refine own_iloadN X0 hx (hb hby d33_22) (q := 23) rfl rfl ?_
  exact own_retv X0 Bd.notSynchronized hx Bd.returns rfl (Or.inl ⟨rfl, (by simp), _, rfl⟩) (hb hby d33_23) (by decide) (by decide) (by rw [e0]; exact ⟨rfl, N0, rfl⟩)
theorem d32_0 : decode jdk_42_method_158_code 0 = .ok (.iload_n 0, 1) := by decide +kernel
theorem d32_1 : decode jdk_42_method_158_code 1 = .ok (.iload_n 1, 1) := by decide +kernel
theorem d32_2 : decode jdk_42_method_158_code 2 = .ok (.iload_n 2, 1) := by decide +kernel
theorem d32_3 : decode jdk_42_method_158_code 3 = .ok (.getstatic 1053, 3) := by decide +kernel
theorem d32_6 : decode jdk_42_method_158_code 6 = .ok (.invokestatic 1062, 3) := by decide +kernel
theorem d32_9 : decode jdk_42_method_158_code 9 = .ok (.pop, 1) := by decide +kernel
theorem d32_10 : decode jdk_42_method_158_code 10 = .ok (.return_, 1) := by decide +kernel
theorem ef_cbbe (m : MethodId) (ee : Nat) (n : Nat) : entryFrame m #[(.int (0 : Int32)), (.int (Int32.ofNat ee)), (.int (Int32.ofNat n))] 3 = mkF m 0 #[.val (.int (0 : Int32)), .val (.int (Int32.ofNat ee)), .val (.int (Int32.ofNat n))] [] := by first | (simp [entryFrame, mkF, argsToLocals, Value.category]; done) | rfl
def Qcbbe (Z : State) (ee : Nat) (n : Nat) (sf : Value) (h0 : Heap) (n0 : Nat) (v : Option Value) (h : Heap) (L : List Loc) : Prop := v = none ∧ Fr n0 L ∧ h = h0
theorem rmcbbe (l : Launch) (Z : State) (a0 : Array Value) (hw : ∀ d ∈ tables_1, d.before a0 Z = true) (ws : List Jvm.Cond) (ee : Nat) (n : Nat) (sf : Value) (h0 : Heap) (n0 : Nat) (Z0 : n0 ≤ h0.size) (O0 : Old Z n0 h0) (Ssf : Sta Z Z.heap "jdk/internal/util/Preconditions" "SIOOBE_FORMATTER" "Ljava/util/function/BiFunction;" sf) (hsf : sf.isRef = true) (he : ee ≤ n) (hn : n ≤ 103) :
    MetFree l (⟨"java/lang/String", "checkBoundsBeginEnd", "(III)V"⟩ : MethodName) (head1 (Jvm.Cond.code (⟨"java/lang/String", "checkBoundsBeginEnd", "(III)V"⟩ : MethodName) jdk_42_method_158_code 3 none :: ws) ({ frames := 1, cells := 0, slots := 0, locals := 15 } : Room)) (fun a U => a = #[(.int (0 : Int32)), (.int (Int32.ofNat ee)), (.int (Int32.ofNat n))] ∧ Z.Warmed39 U.vm ∧ U.heap = h0) (fun _ _ _ _ _ => True) (fun _ U o U' => ∃ v L, o = .returned v ∧ Qcbbe Z ee n sf h0 n0 v U'.heap L ∧ FrameEnd U o U' L ({ frames := 1, cells := 0, slots := 0, locals := 15 } : Room).cells ({ frames := 1, cells := 0, slots := 0, locals := 15 } : Room).slots) := by
  refine MetFree.of_bodySF (plainFor_of_name pn_java_lang_String) hisR ?_
  intro p e s m args below meth c s₁ Bd hml0 hP hK
  obtain ⟨rfl, hZ, hH0⟩ := hP
  have hx := Bd.exec
  have hby := Bd.bytes
  have hml : c.maxLocals = 3 := hml0
  have hown : s.vm.findClass "java/lang/String" = some m.cls := findClass_of_methodNamed Bd.named
  have hnm := (name_of_methodNamed Bd.named Bd.method).1
  have X0 : Stand p l e ({ frames := 1, cells := 0, slots := 0, locals := 15 } : Room) s m #[(.int (0 : Int32)), (.int (Int32.ofNat ee)), (.int (Int32.ofNat n))] below meth c s₁ [] 0 0 := Stand.of_body Bd
  have e0 : s₁.heap = h0 := by rw [← hH0, Bd.state]; rfl
  have N0 := Fr.nil n0
  refine own_cast (ef_cbbe m ee n) ?_
  show own_Go p e below (fun o U' => ∃ v L, o = .returned v ∧ Qcbbe Z ee n sf h0 n0 v U'.heap L ∧ FrameEnd s o U' L ({ frames := 1, cells := 0, slots := 0, locals := 15 } : Room).cells ({ frames := 1, cells := 0, slots := 0, locals := 15 } : Room).slots) (s₁.setTop (mkF m 0 #[.val (.int (0 : Int32)), .val (.int (Int32.ofNat ee)), .val (.int (Int32.ofNat n))] []))
  refine own_iloadN X0 hx (hb hby d32_0) (q := 1) rfl rfl ?_
  refine own_iloadN X0 hx (hb hby d32_1) (q := 2) rfl rfl ?_
  refine own_iloadN X0 hx (hb hby d32_2) (q := 3) rfl rfl ?_
  obtain ⟨T_1, X_1, e_1, st_1⟩ := getS2 X0 hx hZ hown (host := "") (Or.inl (own_w hw 125 rfl)) Via.refl e0 (Ssf.ext O0.2) (g := (mkF m 3 #[.val (.int (0 : Int32)), .val (.int (Int32.ofNat ee)), .val (.int (Int32.ofNat n))] [(.int (Int32.ofNat n)), (.int (Int32.ofNat ee)), (.int (0 : Int32))])) rfl (hb hby d32_3)
  refine own_via st_1 ?_
  show own_Go p e below _ (T_1.setTop (mkF m 6 #[.val (.int (0 : Int32)), .val (.int (Int32.ofNat ee)), .val (.int (Int32.ofNat n))] [sf, (.int (Int32.ofNat n)), (.int (Int32.ofNat ee)), (.int (0 : Int32))]))
  obtain ⟨_, _, ⟨T_2, L_2, k_2, n_2⟩, -, X_2, ⟨Lc_2, hQ_2, l_2, y_2, z_2⟩, st_2⟩ := Jvm.LawKit.callS X_1 hx (y := (⟨"jdk/internal/util/Preconditions", "checkFromToIndex", "(IIILjava/util/function/BiFunction;)I"⟩ : MethodName)) hown (mvT hZ (own_w hw 147 rfl)) (mvT hZ (own_w hw 148 rfl)) (mvT hZ (own_w hw 126 rfl)) (mvT hZ (own_w hw 149 rfl)) (by decide) (backOf (W := 0) (rmcfti l Z a0 hw [] ee n sf h0 n0 Z0 hsf he hn) hZ (own_w hw 149 rfl) (own_w hw 126 rfl) (by decide) (by decide)) (g := (mkF m 6 #[.val (.int (0 : Int32)), .val (.int (Int32.ofNat ee)), .val (.int (Int32.ofNat n))] [sf, (.int (Int32.ofNat n)), (.int (Int32.ofNat ee)), (.int (0 : Int32))])) rfl (by rw [hml]; rfl) (argsL := [(.int (0 : Int32)), (.int (Int32.ofNat ee)), (.int (Int32.ofNat n)), sf]) (rest := []) (lenOf pd_24 rfl) rfl (by show 2 * 0 + _ ≤ _; exact Nat.le_of_eq rfl) (hb hby d32_6) (fun _ _ => ⟨rfl, e_1, (by decide : 0 + 0 ≤ _), (by decide : 0 + 0 ≤ _)⟩)
  dsimp only [Pt.U, Pt.locs, Pt.cells, Pt.slots] at X_2 l_2 y_2 z_2 st_2 hQ_2
  subst l_2 y_2 z_2
  obtain ⟨rfl, Nq_2, e_2⟩ := hQ_2
  have N_2 := Fr.app N0 Nq_2
  refine own_via st_2 ?_
  show own_Go p e below _ (T_2.setTop (mkF m 9 #[.val (.int (0 : Int32)), .val (.int (Int32.ofNat ee)), .val (.int (Int32.ofNat n))] [(.int (0 : Int32))]))
  refine own_via (fun _ => XS.pop X_2.here hx rfl (hb hby d32_9) rfl rfl) ?_
  show own_Go p e below _ (T_2.setTop (mkF m 10 #[.val (.int (0 : Int32)), .val (.int (Int32.ofNat ee)), .val (.int (Int32.ofNat n))] []))
  exact own_ret0 X_2 Bd.notSynchronized hx Bd.returns (hb hby d32_10) (by decide) (by decide) (by rw [e_2]; exact ⟨rfl, N_2, rfl⟩)
theorem d31_0 : decode jdk_42_method_92_code 0 = .ok (.aload_n 0, 1) := by decide +kernel
theorem d31_1 : decode jdk_42_method_92_code 1 = .ok (.invokevirtual 505, 3) := by decide +kernel
theorem d31_4 : decode jdk_42_method_92_code 4 = .ok (.istore_n 3, 1) := by decide +kernel
theorem d31_5 : decode jdk_42_method_92_code 5 = .ok (.iload_n 1, 1) := by decide +kernel
theorem d31_6 : decode jdk_42_method_92_code 6 = .ok (.iload_n 2, 1) := by decide +kernel
theorem d31_7 : decode jdk_42_method_92_code 7 = .ok (.iload_n 3, 1) := by decide +kernel
theorem d31_8 : decode jdk_42_method_92_code 8 = .ok (.invokestatic 521, 3) := by decide +kernel
theorem d31_11 : decode jdk_42_method_92_code 11 = .ok (.iload_n 1, 1) := by decide +kernel
theorem d31_12 : decode jdk_42_method_92_code 12 = .ok (.ifCond .ne 10, 3) := by decide +kernel
theorem d31_15 : decode jdk_42_method_92_code 15 = .ok (.iload_n 2, 1) := by decide +kernel
theorem d31_16 : decode jdk_42_method_92_code 16 = .ok (.iload_n 3, 1) := by decide +kernel
theorem d31_17 : decode jdk_42_method_92_code 17 = .ok (.if_icmp .ne 5, 3) := by decide +kernel
theorem d31_20 : decode jdk_42_method_92_code 20 = .ok (.aload_n 0, 1) := by decide +kernel
theorem d31_21 : decode jdk_42_method_92_code 21 = .ok (.areturn, 1) := by decide +kernel
theorem d31_22 : decode jdk_42_method_92_code 22 = .ok (.iload_n 2, 1) := by decide +kernel
theorem d31_23 : decode jdk_42_method_92_code 23 = .ok (.iload_n 1, 1) := by decide +kernel
theorem d31_24 : decode jdk_42_method_92_code 24 = .ok (.isub, 1) := by decide +kernel
theorem d31_25 : decode jdk_42_method_92_code 25 = .ok (.istore 4, 2) := by decide +kernel
theorem d31_27 : decode jdk_42_method_92_code 27 = .ok (.aload_n 0, 1) := by decide +kernel
theorem d31_28 : decode jdk_42_method_92_code 28 = .ok (.invokevirtual 492, 3) := by decide +kernel
theorem d31_31 : decode jdk_42_method_92_code 31 = .ok (.ifCond .eq 16, 3) := by decide +kernel
theorem d31_34 : decode jdk_42_method_92_code 34 = .ok (.aload_n 0, 1) := by decide +kernel
theorem d31_35 : decode jdk_42_method_92_code 35 = .ok (.getfield 9, 3) := by decide +kernel
theorem d31_38 : decode jdk_42_method_92_code 38 = .ok (.iload_n 1, 1) := by decide +kernel
theorem d31_39 : decode jdk_42_method_92_code 39 = .ok (.iload 4, 2) := by decide +kernel
theorem d31_41 : decode jdk_42_method_92_code 41 = .ok (.invokestatic 685, 3) := by decide +kernel
theorem d31_44 : decode jdk_42_method_92_code 44 = .ok (.goto 13, 3) := by decide +kernel
theorem d31_47 : decode jdk_42_method_92_code 47 = .ok (.aload_n 0, 1) := by decide +kernel
theorem d31_48 : decode jdk_42_method_92_code 48 = .ok (.getfield 9, 3) := by decide +kernel
theorem d31_51 : decode jdk_42_method_92_code 51 = .ok (.iload_n 1, 1) := by decide +kernel
theorem d31_52 : decode jdk_42_method_92_code 52 = .ok (.iload 4, 2) := by decide +kernel
theorem d31_54 : decode jdk_42_method_92_code 54 = .ok (.invokestatic 689, 3) := by decide +kernel
theorem d31_57 : decode jdk_42_method_92_code 57 = .ok (.areturn, 1) := by decide +kernel
theorem pd_27 : parseMethodDescriptor "(III)V" = some ⟨[.int, .int, .int], none⟩ := by decide +kernel
theorem pd_28 : parseMethodDescriptor "([BII)Ljava/lang/String;" = some ⟨[(.array .byte), .int, .int], some (.object "java/lang/String")⟩ := by decide +kernel
theorem ef_subAll (m : MethodId) (a1 : Addr) (cs : List Int32) : entryFrame m #[(.ref a1), (.int (0 : Int32)), (.int (Int32.ofNat cs.length))] 5 = mkF m 0 #[.val (.ref a1), .val (.int (0 : Int32)), .val (.int (Int32.ofNat cs.length)), .unset, .unset] [] := by first | (simp [entryFrame, mkF, argsToLocals, Value.category]; done) | rfl
def QsubAll (Z : State) (a1 : Addr) (cs : List Int32) (cz : Int32) (sf : Value) (h0 : Heap) (n0 : Nat) (v : Option Value) (h : Heap) (L : List Loc) : Prop := v = some (.ref a1) ∧ Fr n0 L ∧ h = h0
theorem rmsubAll (l : Launch) (Z : State) (a0 : Array Value) (hw : ∀ d ∈ tables_1, d.before a0 Z = true) (ws : List Jvm.Cond) (a1 : Addr) (cs : List Int32) (cz : Int32) (sf : Value) (h0 : Heap) (n0 : Nat) (Z0 : n0 ≤ h0.size) (O0 : Old Z n0 h0) (Scs : Sta Z Z.heap "java/lang/String" "COMPACT_STRINGS" "Z" (.int cz)) (hcs : ¬ (cz = (0 : Int32))) (Ssf : Sta Z Z.heap "jdk/internal/util/Preconditions" "SIOOBE_FORMATTER" "Ljava/util/function/BiFunction;" sf) (hsf : sf.isRef = true) (S1 : own_S Z h0 a1 cs) (E1 : Exa Z h0 a1 "java/lang/String") (hl : cs.length ≤ 103) :
    MetFree l (⟨"java/lang/String", "substring", "(II)Ljava/lang/String;"⟩ : MethodName) (head1 (Jvm.Cond.code (⟨"java/lang/String", "substring", "(II)Ljava/lang/String;"⟩ : MethodName) jdk_42_method_92_code 5 (some (.object "java/lang/String")) :: ws) ({ frames := 2, cells := 0, slots := 0, locals := 30 } : Room)) (fun a U => a = #[(.ref a1), (.int (0 : Int32)), (.int (Int32.ofNat cs.length))] ∧ Z.Warmed39 U.vm ∧ U.heap = h0) (fun _ _ _ _ _ => True) (fun _ U o U' => ∃ v L, o = .returned v ∧ QsubAll Z a1 cs cz sf h0 n0 v U'.heap L ∧ FrameEnd U o U' L ({ frames := 2, cells := 0, slots := 0, locals := 30 } : Room).cells ({ frames := 2, cells := 0, slots := 0, locals := 30 } : Room).slots) := by
  refine MetFree.of_bodySF (plainFor_of_name pn_java_lang_String) hisR ?_
  intro p e s m args below meth c s₁ Bd hml0 hP hK
  obtain ⟨rfl, hZ, hH0⟩ := hP
  have hx := Bd.exec
  have hby := Bd.bytes
  have hml : c.maxLocals = 5 := hml0
  have hown : s.vm.findClass "java/lang/String" = some m.cls := findClass_of_methodNamed Bd.named
  have hnm := (name_of_methodNamed Bd.named Bd.method).1
  have X0 : Stand p l e ({ frames := 2, cells := 0, slots := 0, locals := 30 } : Room) s m #[(.ref a1), (.int (0 : Int32)), (.int (Int32.ofNat cs.length))] below meth c s₁ [] 0 0 := Stand.of_body Bd
  have e0 : s₁.heap = h0 := by rw [← hH0, Bd.state]; rfl
  have N0 := Fr.nil n0
  refine own_cast (ef_subAll m a1 cs) ?_
  show own_Go p e below (fun o U' => ∃ v L, o = .returned v ∧ QsubAll Z a1 cs cz sf h0 n0 v U'.heap L ∧ FrameEnd s o U' L ({ frames := 2, cells := 0, slots := 0, locals := 30 } : Room).cells ({ frames := 2, cells := 0, slots := 0, locals := 30 } : Room).slots) (s₁.setTop (mkF m 0 #[.val (.ref a1), .val (.int (0 : Int32)), .val (.int (Int32.ofNat cs.length)), .unset, .unset] []))
  refine own_aloadN X0 hx (hb hby d31_0) (q := 1) rfl rfl rfl ?_
  obtain ⟨cq_1, kq_1, q_1a, q_1b, q_1c⟩ := isOf hZ e0 E1
  obtain ⟨_, _, ⟨T_1, L_1, k_1, n_1⟩, -, X_1, ⟨Lc_1, hQ_1, l_1, y_1, z_1⟩, st_1⟩ := X0.virtualBack hx (y := (⟨"java/lang/String", "length", "()I"⟩ : MethodName)) (z := (⟨"java/lang/String", "length", "()I"⟩ : MethodName)) hown (mvT hZ (own_w hw 143 rfl)) (mvT hZ (own_w hw 75 rfl)) (notFace_of_selects (args := #[]) (mvT hZ (own_w hw 77 rfl))) (mvT hZ (own_w hw 77 rfl)) (mvT hZ (own_w hw 76 rfl)) (by decide) (backOf (W := 0) (rmlength l Z a0 hw [] a1 cs cz h0 n0 Z0 O0 Scs hcs S1) hZ (own_w hw 78 rfl) (own_w hw 24 rfl) (by decide) (by decide)) q_1a q_1c (g := (mkF m 1 #[.val (.ref a1), .val (.int (0 : Int32)), .val (.int (Int32.ofNat cs.length)), .unset, .unset] [(.ref a1)])) rfl (by rw [hml]; rfl) (Steps.refl _) (argsL := []) (rest := []) (lenOf pd_17 rfl) rfl (by show 2 * 0 + _ ≤ _; exact Nat.le_of_eq rfl) (hb hby d31_1) (fun _ _ => ⟨rfl, e0, (by decide : 0 + 0 ≤ _), (by decide : 0 + 0 ≤ _)⟩)
  dsimp only [Pt.U, Pt.locs, Pt.cells, Pt.slots] at X_1 l_1 y_1 z_1 st_1 hQ_1
  subst l_1 y_1 z_1
  obtain ⟨rfl, Nq_1, e_1⟩ := hQ_1
  have N_1 := Fr.app N0 Nq_1
  refine own_via (fun _ k => st_1.trans k) ?_
  show own_Go p e below _ (T_1.setTop (mkF m 4 #[.val (.ref a1), .val (.int (0 : Int32)), .val (.int (Int32.ofNat cs.length)), .unset, .unset] [(.int (Int32.ofNat cs.length))]))
  refine own_via (fun _ => XS.istoreN X_1.here hx rfl (hb hby d31_4) rfl (l' := #[.val (.ref a1), .val (.int (0 : Int32)), .val (.int (Int32.ofNat cs.length)), .val (.int (Int32.ofNat cs.length)), .unset]) rfl) ?_
  show own_Go p e below _ (T_1.setTop (mkF m 5 #[.val (.ref a1), .val (.int (0 : Int32)), .val (.int (Int32.ofNat cs.length)), .val (.int (Int32.ofNat cs.length)), .unset] []))
  refine own_iloadN X_1 hx (hb hby d31_5) (q := 6) rfl rfl ?_
  refine own_iloadN X_1 hx (hb hby d31_6) (q := 7) rfl rfl ?_
  refine own_iloadN X_1 hx (hb hby d31_7) (q := 8) rfl rfl ?_
  obtain ⟨_, _, ⟨T_2, L_2, k_2, n_2⟩, -, X_2, ⟨Lc_2, hQ_2, l_2, y_2, z_2⟩, st_2⟩ := Jvm.LawKit.callS X_1 hx (y := (⟨"java/lang/String", "checkBoundsBeginEnd", "(III)V"⟩ : MethodName)) hown (mvT hZ (own_w hw 144 rfl)) (mvT hZ (own_w hw 145 rfl)) (mvT hZ (own_w hw 24 rfl)) (mvT hZ (own_w hw 146 rfl)) (by decide) (backOf (W := 0) (rmcbbe l Z a0 hw [] cs.length cs.length sf h0 n0 Z0 O0 Ssf hsf (Nat.le_refl _) hl) hZ (own_w hw 146 rfl) (own_w hw 24 rfl) (by decide) (by decide)) (g := (mkF m 8 #[.val (.ref a1), .val (.int (0 : Int32)), .val (.int (Int32.ofNat cs.length)), .val (.int (Int32.ofNat cs.length)), .unset] [(.int (Int32.ofNat cs.length)), (.int (Int32.ofNat cs.length)), (.int (0 : Int32))])) rfl (by rw [hml]; rfl) (argsL := [(.int (0 : Int32)), (.int (Int32.ofNat cs.length)), (.int (Int32.ofNat cs.length))]) (rest := []) (lenOf pd_27 rfl) rfl (by show 2 * 0 + _ ≤ _; exact Nat.le_of_eq rfl) (hb hby d31_8) (fun _ _ => ⟨rfl, e_1, (by decide : 0 + 0 ≤ _), (by decide : 0 + 0 ≤ _)⟩)
  dsimp only [Pt.U, Pt.locs, Pt.cells, Pt.slots] at X_2 l_2 y_2 z_2 st_2 hQ_2
  subst l_2 y_2 z_2
  obtain ⟨rfl, Nq_2, e_2⟩ := hQ_2
  have N_2 := Fr.app N_1 Nq_2
  refine own_via st_2 ?_
  show own_Go p e below _ (T_2.setTop (mkF m 11 #[.val (.ref a1), .val (.int (0 : Int32)), .val (.int (Int32.ofNat cs.length)), .val (.int (Int32.ofNat cs.length)), .unset] []))
  refine own_iloadN X_2 hx (hb hby d31_11) (q := 12) rfl rfl ?_
  refine own_via (fun _ => XS.ifNo X_2.here hx rfl (hb hby d31_12) rfl ((if0 _ _).trans (teq ((by decide) : (0 : Int32) = (0 : Int32))).2)) ?_
  show own_Go p e below _ (T_2.setTop (mkF m 15 #[.val (.ref a1), .val (.int (0 : Int32)), .val (.int (Int32.ofNat cs.length)), .val (.int (Int32.ofNat cs.length)), .unset] []))
  refine own_iloadN X_2 hx (hb hby d31_15) (q := 16) rfl rfl ?_
  refine own_iloadN X_2 hx (hb hby d31_16) (q := 17) rfl rfl ?_
  refine own_via (fun _ => XS.icmpNo X_2.here hx rfl (hb hby d31_17) rfl (teq (rfl : (Int32.ofNat cs.length) = (Int32.ofNat cs.length))).2) ?_
  show own_Go p e below _ (T_2.setTop (mkF m 20 #[.val (.ref a1), .val (.int (0 : Int32)), .val (.int (Int32.ofNat cs.length)), .val (.int (Int32.ofNat cs.length)), .unset] []))
  refine own_aloadN X_2 hx (hb hby d31_20) (q := 21) rfl rfl rfl ?_
  exact own_retv X_2 Bd.notSynchronized hx Bd.returns rfl (Or.inr (Or.inr (Or.inr (Or.inr ⟨rfl, rfl, rfl⟩)))) (hb hby d31_21) (by decide) (by decide) (by rw [e_2]; exact ⟨rfl, N_2, rfl⟩)
theorem ef_subPart (m : MethodId) (a1 : Addr) (ee : Nat) : entryFrame m #[(.ref a1), (.int (0 : Int32)), (.int (Int32.ofNat ee))] 5 = mkF m 0 #[.val (.ref a1), .val (.int (0 : Int32)), .val (.int (Int32.ofNat ee)), .unset, .unset] [] := by first | (simp [entryFrame, mkF, argsToLocals, Value.category]; done) | rfl
def QsubPart (Z : State) (a1 : Addr) (cs : List Int32) (ee : Nat) (cz : Int32) (sf : Value) (h0 : Heap) (n0 : Nat) (v : Option Value) (h : Heap) (L : List Loc) : Prop := ∃ r : Addr, v = some (.ref r) ∧ Fr n0 L ∧ Keep h0 h [] ∧ (own_S Z h r (cs.take ee))
theorem rmsubPart (l : Launch) (Z : State) (a0 : Array Value) (hw : ∀ d ∈ tables_1, d.before a0 Z = true) (ws : List Jvm.Cond) (a1 : Addr) (cs : List Int32) (ee : Nat) (cz : Int32) (sf : Value) (h0 : Heap) (n0 : Nat) (Z0 : n0 ≤ h0.size) (O0 : Old Z n0 h0) (Sad : Sta Z Z.heap "java/lang/StringUTF16" "$assertionsDisabled" "Z" (.int (1 : Int32))) (Shi : Sta Z Z.heap "java/lang/StringUTF16" "HI_BYTE_SHIFT" "I" (.int (0 : Int32))) (Slo : Sta Z Z.heap "java/lang/StringUTF16" "LO_BYTE_SHIFT" "I" (.int (8 : Int32))) (Scs : Sta Z Z.heap "java/lang/String" "COMPACT_STRINGS" "Z" (.int cz)) (hcs : ¬ (cz = (0 : Int32))) (Ssf : Sta Z Z.heap "jdk/internal/util/Preconditions" "SIOOBE_FORMATTER" "Ljava/util/function/BiFunction;" sf) (hsf : sf.isRef = true) (S1 : own_S Z h0 a1 cs) (he : ee < cs.length) (he0 : 0 < ee) :
    MetFree l (⟨"java/lang/String", "substring", "(II)Ljava/lang/String;"⟩ : MethodName) (head1 (Jvm.Cond.code (⟨"java/lang/String", "substring", "(II)Ljava/lang/String;"⟩ : MethodName) jdk_42_method_92_code 5 (some (.object "java/lang/String")) :: ws) ({ frames := 6, cells := 3, slots := 313, locals := 120 } : Room)) (fun a U => a = #[(.ref a1), (.int (0 : Int32)), (.int (Int32.ofNat ee))] ∧ Z.Warmed39 U.vm ∧ U.heap = h0) (fun _ _ _ _ _ => True) (fun _ U o U' => ∃ v L, o = .returned v ∧ QsubPart Z a1 cs ee cz sf h0 n0 v U'.heap L ∧ FrameEnd U o U' L ({ frames := 6, cells := 3, slots := 313, locals := 120 } : Room).cells ({ frames := 6, cells := 3, slots := 313, locals := 120 } : Room).slots) := by
  refine MetFree.of_bodySF (plainFor_of_name pn_java_lang_String) hisR ?_
  intro p e s m args below meth c s₁ Bd hml0 hP hK
  obtain ⟨rfl, hZ, hH0⟩ := hP
  have hx := Bd.exec
  have hby := Bd.bytes
  have hml : c.maxLocals = 5 := hml0
  have hown : s.vm.findClass "java/lang/String" = some m.cls := findClass_of_methodNamed Bd.named
  have hnm := (name_of_methodNamed Bd.named Bd.method).1
  have X0 : Stand p l e ({ frames := 6, cells := 3, slots := 313, locals := 120 } : Room) s m #[(.ref a1), (.int (0 : Int32)), (.int (Int32.ofNat ee))] below meth c s₁ [] 0 0 := Stand.of_body Bd
  have e0 : s₁.heap = h0 := by rw [← hH0, Bd.state]; rfl
  have N0 := Fr.nil n0
  refine own_cast (ef_subPart m a1 ee) ?_
  show own_Go p e below (fun o U' => ∃ v L, o = .returned v ∧ QsubPart Z a1 cs ee cz sf h0 n0 v U'.heap L ∧ FrameEnd s o U' L ({ frames := 6, cells := 3, slots := 313, locals := 120 } : Room).cells ({ frames := 6, cells := 3, slots := 313, locals := 120 } : Room).slots) (s₁.setTop (mkF m 0 #[.val (.ref a1), .val (.int (0 : Int32)), .val (.int (Int32.ofNat ee)), .unset, .unset] []))
  have S1' := S1
  obtain ⟨E1, ⟨t1, k1, cd, N2, vs, C1, V1, B1, hC⟩, hbd, hl⟩ := S1'
  rcases hC with ⟨rfl, rfl, rfl, hal⟩ | ⟨rfl, rfl, rfl, hal⟩
  · refine own_aloadN X0 hx (hb hby d31_0) (q := 1) rfl rfl rfl ?_
    obtain ⟨cq_1, kq_1, q_1a, q_1b, q_1c⟩ := isOf hZ e0 E1
    obtain ⟨_, _, ⟨T_1, L_1, k_1, n_1⟩, -, X_1, ⟨Lc_1, hQ_1, l_1, y_1, z_1⟩, st_1⟩ := X0.virtualBack hx (y := (⟨"java/lang/String", "length", "()I"⟩ : MethodName)) (z := (⟨"java/lang/String", "length", "()I"⟩ : MethodName)) hown (mvT hZ (own_w hw 143 rfl)) (mvT hZ (own_w hw 75 rfl)) (notFace_of_selects (args := #[]) (mvT hZ (own_w hw 77 rfl))) (mvT hZ (own_w hw 77 rfl)) (mvT hZ (own_w hw 76 rfl)) (by decide) (backOf (W := 0) (rmlength l Z a0 hw [] a1 cs cz h0 n0 Z0 O0 Scs hcs S1) hZ (own_w hw 78 rfl) (own_w hw 24 rfl) (by decide) (by decide)) q_1a q_1c (g := (mkF m 1 #[.val (.ref a1), .val (.int (0 : Int32)), .val (.int (Int32.ofNat ee)), .unset, .unset] [(.ref a1)])) rfl (by rw [hml]; rfl) (Steps.refl _) (argsL := []) (rest := []) (lenOf pd_17 rfl) rfl (by show 2 * 0 + _ ≤ _; exact Nat.le_of_eq rfl) (hb hby d31_1) (fun _ _ => ⟨rfl, e0, (by decide : 0 + 0 ≤ _), (by decide : 0 + 0 ≤ _)⟩)
    dsimp only [Pt.U, Pt.locs, Pt.cells, Pt.slots] at X_1 l_1 y_1 z_1 st_1 hQ_1
    subst l_1 y_1 z_1
    obtain ⟨rfl, Nq_1, e_1⟩ := hQ_1
    have N_1 := Fr.app N0 Nq_1
    refine own_via (fun _ k => st_1.trans k) ?_
    show own_Go p e below _ (T_1.setTop (mkF m 4 #[.val (.ref a1), .val (.int (0 : Int32)), .val (.int (Int32.ofNat ee)), .unset, .unset] [(.int (Int32.ofNat cs.length))]))
    refine own_via (fun _ => XS.istoreN X_1.here hx rfl (hb hby d31_4) rfl (l' := #[.val (.ref a1), .val (.int (0 : Int32)), .val (.int (Int32.ofNat ee)), .val (.int (Int32.ofNat cs.length)), .unset]) rfl) ?_
    show own_Go p e below _ (T_1.setTop (mkF m 5 #[.val (.ref a1), .val (.int (0 : Int32)), .val (.int (Int32.ofNat ee)), .val (.int (Int32.ofNat cs.length)), .unset] []))
    refine own_iloadN X_1 hx (hb hby d31_5) (q := 6) rfl rfl ?_
    refine own_iloadN X_1 hx (hb hby d31_6) (q := 7) rfl rfl ?_
    refine own_iloadN X_1 hx (hb hby d31_7) (q := 8) rfl rfl ?_
    obtain ⟨_, _, ⟨T_2, L_2, k_2, n_2⟩, -, X_2, ⟨Lc_2, hQ_2, l_2, y_2, z_2⟩, st_2⟩ := Jvm.LawKit.callS X_1 hx (y := (⟨"java/lang/String", "checkBoundsBeginEnd", "(III)V"⟩ : MethodName)) hown (mvT hZ (own_w hw 144 rfl)) (mvT hZ (own_w hw 145 rfl)) (mvT hZ (own_w hw 24 rfl)) (mvT hZ (own_w hw 146 rfl)) (by decide) (backOf (W := 0) (rmcbbe l Z a0 hw [] ee cs.length sf h0 n0 Z0 O0 Ssf hsf (by omega) hl) hZ (own_w hw 146 rfl) (own_w hw 24 rfl) (by decide) (by decide)) (g := (mkF m 8 #[.val (.ref a1), .val (.int (0 : Int32)), .val (.int (Int32.ofNat ee)), .val (.int (Int32.ofNat cs.length)), .unset] [(.int (Int32.ofNat cs.length)), (.int (Int32.ofNat ee)), (.int (0 : Int32))])) rfl (by rw [hml]; rfl) (argsL := [(.int (0 : Int32)), (.int (Int32.ofNat ee)), (.int (Int32.ofNat cs.length))]) (rest := []) (lenOf pd_27 rfl) rfl (by show 2 * 0 + _ ≤ _; exact Nat.le_of_eq rfl) (hb hby d31_8) (fun _ _ => ⟨rfl, e_1, (by decide : 0 + 0 ≤ _), (by decide : 0 + 0 ≤ _)⟩)
    dsimp only [Pt.U, Pt.locs, Pt.cells, Pt.slots] at X_2 l_2 y_2 z_2 st_2 hQ_2
    subst l_2 y_2 z_2
    obtain ⟨rfl, Nq_2, e_2⟩ := hQ_2
    have N_2 := Fr.app N_1 Nq_2
    refine own_via st_2 ?_
    show own_Go p e below _ (T_2.setTop (mkF m 11 #[.val (.ref a1), .val (.int (0 : Int32)), .val (.int (Int32.ofNat ee)), .val (.int (Int32.ofNat cs.length)), .unset] []))
    refine own_iloadN X_2 hx (hb hby d31_11) (q := 12) rfl rfl ?_
    refine own_via (fun _ => XS.ifNo X_2.here hx rfl (hb hby d31_12) rfl ((if0 _ _).trans (teq ((by decide) : (0 : Int32) = (0 : Int32))).2)) ?_
    show own_Go p e below _ (T_2.setTop (mkF m 15 #[.val (.ref a1), .val (.int (0 : Int32)), .val (.int (Int32.ofNat ee)), .val (.int (Int32.ofNat cs.length)), .unset] []))
    refine own_iloadN X_2 hx (hb hby d31_15) (q := 16) rfl rfl ?_
    refine own_iloadN X_2 hx (hb hby d31_16) (q := 17) rfl rfl ?_
    refine own_via (fun _ => XS.icmpYes X_2.here hx rfl (pc0 := 17) (pc' := 22) rfl (hb hby d31_17) rfl (feq (fun q => absurd ((own_eq (by omega) (by omega)).mp q) (by omega) : ¬ ((Int32.ofNat ee) = (Int32.ofNat cs.length)))).2 (by decide) (by decide)) ?_
    show own_Go p e below _ (T_2.setTop (mkF m 22 #[.val (.ref a1), .val (.int (0 : Int32)), .val (.int (Int32.ofNat ee)), .val (.int (Int32.ofNat cs.length)), .unset] []))
    refine own_iloadN X_2 hx (hb hby d31_22) (q := 23) rfl rfl ?_
    refine own_iloadN X_2 hx (hb hby d31_23) (q := 24) rfl rfl ?_
    refine own_via (fun _ => XS.isub X_2.here hx rfl (hb hby d31_24) rfl) ?_
    show own_Go p e below _ (T_2.setTop (mkF m 25 #[.val (.ref a1), .val (.int (0 : Int32)), .val (.int (Int32.ofNat ee)), .val (.int (Int32.ofNat cs.length)), .unset] [(.int ((Int32.ofNat ee) - (0 : Int32)))]))
    rw [own_sub0]
    show own_Go p e below _ (T_2.setTop (mkF m 25 #[.val (.ref a1), .val (.int (0 : Int32)), .val (.int (Int32.ofNat ee)), .val (.int (Int32.ofNat cs.length)), .unset] [(.int (Int32.ofNat ee))]))
    refine own_via (fun _ => XS.istore X_2.here hx rfl (hb hby d31_25) rfl (l' := #[.val (.ref a1), .val (.int (0 : Int32)), .val (.int (Int32.ofNat ee)), .val (.int (Int32.ofNat cs.length)), .val (.int (Int32.ofNat ee))]) rfl) ?_
    show own_Go p e below _ (T_2.setTop (mkF m 27 #[.val (.ref a1), .val (.int (0 : Int32)), .val (.int (Int32.ofNat ee)), .val (.int (Int32.ofNat cs.length)), .val (.int (Int32.ofNat ee))] []))
    refine own_aloadN X_2 hx (hb hby d31_27) (q := 28) rfl rfl rfl ?_
    obtain ⟨cq_3, kq_3, q_3a, q_3b, q_3c⟩ := isOf hZ e_2 E1
    obtain ⟨_, _, ⟨T_3, L_3, k_3, n_3⟩, -, X_3, ⟨Lc_3, hQ_3, l_3, y_3, z_3⟩, st_3⟩ := X_2.virtualBack hx (y := (⟨"java/lang/String", "isLatin1", "()Z"⟩ : MethodName)) (z := (⟨"java/lang/String", "isLatin1", "()Z"⟩ : MethodName)) hown (mvT hZ (own_w hw 108 rfl)) (mvT hZ (own_w hw 109 rfl)) (notFace_of_selects (args := #[]) (mvT hZ (own_w hw 111 rfl))) (mvT hZ (own_w hw 111 rfl)) (mvT hZ (own_w hw 110 rfl)) (by decide) (backOf (W := 0) (rmlatin0 l Z a0 hw [] a1 cz h0 n0 Z0 O0 Scs hcs C1) hZ (own_w hw 112 rfl) (own_w hw 24 rfl) (by decide) (by decide)) q_3a q_3c (g := (mkF m 28 #[.val (.ref a1), .val (.int (0 : Int32)), .val (.int (Int32.ofNat ee)), .val (.int (Int32.ofNat cs.length)), .val (.int (Int32.ofNat ee))] [(.ref a1)])) rfl (by rw [hml]; rfl) (Steps.refl _) (argsL := []) (rest := []) (lenOf pd_16 rfl) rfl (by show 2 * 0 + _ ≤ _; exact Nat.le_of_eq rfl) (hb hby d31_28) (fun _ _ => ⟨rfl, e_2, (by decide : 0 + 0 ≤ _), (by decide : 0 + 0 ≤ _)⟩)
    dsimp only [Pt.U, Pt.locs, Pt.cells, Pt.slots] at X_3 l_3 y_3 z_3 st_3 hQ_3
    subst l_3 y_3 z_3
    obtain ⟨rfl, Nq_3, e_3⟩ := hQ_3
    have N_3 := Fr.app N_2 Nq_3
    refine own_via (fun _ k => st_3.trans k) ?_
    show own_Go p e below _ (T_3.setTop (mkF m 31 #[.val (.ref a1), .val (.int (0 : Int32)), .val (.int (Int32.ofNat ee)), .val (.int (Int32.ofNat cs.length)), .val (.int (Int32.ofNat ee))] [(.int (1 : Int32))]))
    refine own_via (fun _ => XS.ifNo X_3.here hx rfl (hb hby d31_31) rfl ((if0 _ _).trans (feq ((by decide) : ¬ ((1 : Int32) = (0 : Int32)))).1)) ?_
    show own_Go p e below _ (T_3.setTop (mkF m 34 #[.val (.ref a1), .val (.int (0 : Int32)), .val (.int (Int32.ofNat ee)), .val (.int (Int32.ofNat cs.length)), .val (.int (Int32.ofNat ee))] []))
    refine own_aloadN X_3 hx (hb hby d31_34) (q := 35) rfl rfl rfl ?_
    obtain ⟨T_4, X_4, e_4, st_4⟩ := getF X_3 hx hZ hown (host := "") (Or.inl (own_w hw 68 rfl)) Via.refl e_3 V1 (g := (mkF m 35 #[.val (.ref a1), .val (.int (0 : Int32)), .val (.int (Int32.ofNat ee)), .val (.int (Int32.ofNat cs.length)), .val (.int (Int32.ofNat ee))] [(.ref a1)])) rfl rfl (hb hby d31_35)
    refine own_via st_4 ?_
    show own_Go p e below _ (T_4.setTop (mkF m 38 #[.val (.ref a1), .val (.int (0 : Int32)), .val (.int (Int32.ofNat ee)), .val (.int (Int32.ofNat cs.length)), .val (.int (Int32.ofNat ee))] [(.ref t1)]))
    refine own_iloadN X_4 hx (hb hby d31_38) (q := 39) rfl rfl ?_
    refine own_iload X_4 hx (hb hby d31_39) (q := 41) rfl rfl ?_
    obtain ⟨_, _, ⟨T_5, L_5, k_5, n_5⟩, -, X_5, ⟨Lc_5, hQ_5, l_5, y_5, z_5⟩, st_5⟩ := Jvm.LawKit.callS X_4 hx (y := (⟨"java/lang/StringLatin1", "newString", "([BII)Ljava/lang/String;"⟩ : MethodName)) hown (mvT hZ (own_w hw 211 rfl)) (mvT hZ (own_w hw 212 rfl)) (mvT hZ (own_w hw 200 rfl)) (mvT hZ (own_w hw 213 rfl)) (by decide) (backOf (W := 0) (rmnsL l Z a0 hw [] t1 k1 cs ee h0 n0 Z0 B1 hl hbd hal he he0) hZ (own_w hw 213 rfl) (own_w hw 200 rfl) (by decide) (by decide)) (g := (mkF m 41 #[.val (.ref a1), .val (.int (0 : Int32)), .val (.int (Int32.ofNat ee)), .val (.int (Int32.ofNat cs.length)), .val (.int (Int32.ofNat ee))] [(.int (Int32.ofNat ee)), (.int (0 : Int32)), (.ref t1)])) rfl (by rw [hml]; rfl) (argsL := [(.ref t1), (.int (0 : Int32)), (.int (Int32.ofNat ee))]) (rest := []) (lenOf pd_28 rfl) rfl (by show 2 * 0 + _ ≤ _; exact Nat.le_of_eq rfl) (hb hby d31_41) (fun _ _ => ⟨rfl, e_4, (by decide : 0 + 2 ≤ _), (by decide : 0 + 210 ≤ _)⟩)
    dsimp only [Pt.U, Pt.locs, Pt.cells, Pt.slots] at X_5 l_5 y_5 z_5 st_5 hQ_5
    subst l_5 y_5 z_5
    obtain ⟨r_6, rfl, Nq_5, K_5q, q_5_0⟩ := hQ_5
    have N_5 := Fr.app N_3 Nq_5
    refine own_via st_5 ?_
    show own_Go p e below _ (T_5.setTop (mkF m 44 #[.val (.ref a1), .val (.int (0 : Int32)), .val (.int (Int32.ofNat ee)), .val (.int (Int32.ofNat cs.length)), .val (.int (Int32.ofNat ee))] [(.ref r_6)]))
    refine own_via (fun _ => XS.goto X_5.here hx rfl (pc0 := 44) (pc' := 57) rfl (hb hby d31_44) (by decide) (by decide)) ?_
    show own_Go p e below _ (T_5.setTop (mkF m 57 #[.val (.ref a1), .val (.int (0 : Int32)), .val (.int (Int32.ofNat ee)), .val (.int (Int32.ofNat cs.length)), .val (.int (Int32.ofNat ee))] [(.ref r_6)]))
    have K_7 : Keep h0 T_5.heap [] := Keep.trans (ws := []) (Keep.refl h0 []) K_5q all0
    exact own_retv X_5 Bd.notSynchronized hx Bd.returns rfl (Or.inr (Or.inr (Or.inr (Or.inr ⟨rfl, rfl, rfl⟩)))) (hb hby d31_57) (by decide) (by decide) ⟨r_6, rfl, N_5, K_7, q_5_0⟩
  · refine own_aloadN X0 hx (hb hby d31_0) (q := 1) rfl rfl rfl ?_
    obtain ⟨cq_8, kq_8, q_8a, q_8b, q_8c⟩ := isOf hZ e0 E1
    obtain ⟨_, _, ⟨T_8, L_8, k_8, n_8⟩, -, X_8, ⟨Lc_8, hQ_8, l_8, y_8, z_8⟩, st_8⟩ := X0.virtualBack hx (y := (⟨"java/lang/String", "length", "()I"⟩ : MethodName)) (z := (⟨"java/lang/String", "length", "()I"⟩ : MethodName)) hown (mvT hZ (own_w hw 143 rfl)) (mvT hZ (own_w hw 75 rfl)) (notFace_of_selects (args := #[]) (mvT hZ (own_w hw 77 rfl))) (mvT hZ (own_w hw 77 rfl)) (mvT hZ (own_w hw 76 rfl)) (by decide) (backOf (W := 0) (rmlength l Z a0 hw [] a1 cs cz h0 n0 Z0 O0 Scs hcs S1) hZ (own_w hw 78 rfl) (own_w hw 24 rfl) (by decide) (by decide)) q_8a q_8c (g := (mkF m 1 #[.val (.ref a1), .val (.int (0 : Int32)), .val (.int (Int32.ofNat ee)), .unset, .unset] [(.ref a1)])) rfl (by rw [hml]; rfl) (Steps.refl _) (argsL := []) (rest := []) (lenOf pd_17 rfl) rfl (by show 2 * 0 + _ ≤ _; exact Nat.le_of_eq rfl) (hb hby d31_1) (fun _ _ => ⟨rfl, e0, (by decide : 0 + 0 ≤ _), (by decide : 0 + 0 ≤ _)⟩)
    dsimp only [Pt.U, Pt.locs, Pt.cells, Pt.slots] at X_8 l_8 y_8 z_8 st_8 hQ_8
    subst l_8 y_8 z_8
    obtain ⟨rfl, Nq_8, e_8⟩ := hQ_8
    have N_8 := Fr.app N0 Nq_8
    refine own_via (fun _ k => st_8.trans k) ?_
    show own_Go p e below _ (T_8.setTop (mkF m 4 #[.val (.ref a1), .val (.int (0 : Int32)), .val (.int (Int32.ofNat ee)), .unset, .unset] [(.int (Int32.ofNat cs.length))]))
    refine own_via (fun _ => XS.istoreN X_8.here hx rfl (hb hby d31_4) rfl (l' := #[.val (.ref a1), .val (.int (0 : Int32)), .val (.int (Int32.ofNat ee)), .val (.int (Int32.ofNat cs.length)), .unset]) rfl) ?_
    show own_Go p e below _ (T_8.setTop (mkF m 5 #[.val (.ref a1), .val (.int (0 : Int32)), .val (.int (Int32.ofNat ee)), .val (.int (Int32.ofNat cs.length)), .unset] []))
    refine own_iloadN X_8 hx (hb hby d31_5) (q := 6) rfl rfl ?_
    refine own_iloadN X_8 hx (hb hby d31_6) (q := 7) rfl rfl ?_
    refine own_iloadN X_8 hx (hb hby d31_7) (q := 8) rfl rfl ?_
    obtain ⟨_, _, ⟨T_9, L_9, k_9, n_9⟩, -, X_9, ⟨Lc_9, hQ_9, l_9, y_9, z_9⟩, st_9⟩ := Jvm.LawKit.callS X_8 hx (y := (⟨"java/lang/String", "checkBoundsBeginEnd", "(III)V"⟩ : MethodName)) hown (mvT hZ (own_w hw 144 rfl)) (mvT hZ (own_w hw 145 rfl)) (mvT hZ (own_w hw 24 rfl)) (mvT hZ (own_w hw 146 rfl)) (by decide) (backOf (W := 0) (rmcbbe l Z a0 hw [] ee cs.length sf h0 n0 Z0 O0 Ssf hsf (by omega) hl) hZ (own_w hw 146 rfl) (own_w hw 24 rfl) (by decide) (by decide)) (g := (mkF m 8 #[.val (.ref a1), .val (.int (0 : Int32)), .val (.int (Int32.ofNat ee)), .val (.int (Int32.ofNat cs.length)), .unset] [(.int (Int32.ofNat cs.length)), (.int (Int32.ofNat ee)), (.int (0 : Int32))])) rfl (by rw [hml]; rfl) (argsL := [(.int (0 : Int32)), (.int (Int32.ofNat ee)), (.int (Int32.ofNat cs.length))]) (rest := []) (lenOf pd_27 rfl) rfl (by show 2 * 0 + _ ≤ _; exact Nat.le_of_eq rfl) (hb hby d31_8) (fun _ _ => ⟨rfl, e_8, (by decide : 0 + 0 ≤ _), (by decide : 0 + 0 ≤ _)⟩)
    dsimp only [Pt.U, Pt.locs, Pt.cells, Pt.slots] at X_9 l_9 y_9 z_9 st_9 hQ_9
    subst l_9 y_9 z_9
    obtain ⟨rfl, Nq_9, e_9⟩ := hQ_9
    have N_9 := Fr.app N_8 Nq_9
    refine own_via st_9 ?_
    show own_Go p e below _ (T_9.setTop (mkF m 11 #[.val (.ref a1), .val (.int (0 : Int32)), .val (.int (Int32.ofNat ee)), .val (.int (Int32.ofNat cs.length)), .unset] []))
    refine own_iloadN X_9 hx (hb hby d31_11) (q := 12) rfl rfl ?_
    refine own_via (fun _ => XS.ifNo X_9.here hx rfl (hb hby d31_12) rfl ((if0 _ _).trans (teq ((by decide) : (0 : Int32) = (0 : Int32))).2)) ?_
    show own_Go p e below _ (T_9.setTop (mkF m 15 #[.val (.ref a1), .val (.int (0 : Int32)), .val (.int (Int32.ofNat ee)), .val (.int (Int32.ofNat cs.length)), .unset] []))
    refine own_iloadN X_9 hx (hb hby d31_15) (q := 16) rfl rfl ?_
    refine own_iloadN X_9 hx (hb hby d31_16) (q := 17) rfl rfl ?_
    refine own_via (fun _ => XS.icmpYes X_9.here hx rfl (pc0 := 17) (pc' := 22) rfl (hb hby d31_17) rfl (feq (fun q => absurd ((own_eq (by omega) (by omega)).mp q) (by omega) : ¬ ((Int32.ofNat ee) = (Int32.ofNat cs.length)))).2 (by decide) (by decide)) ?_
    show own_Go p e below _ (T_9.setTop (mkF m 22 #[.val (.ref a1), .val (.int (0 : Int32)), .val (.int (Int32.ofNat ee)), .val (.int (Int32.ofNat cs.length)), .unset] []))
    refine own_iloadN X_9 hx (hb hby d31_22) (q := 23) rfl rfl ?_
    refine own_iloadN X_9 hx (hb hby d31_23) (q := 24) rfl rfl ?_
    refine own_via (fun _ => XS.isub X_9.here hx rfl (hb hby d31_24) rfl) ?_
    show own_Go p e below _ (T_9.setTop (mkF m 25 #[.val (.ref a1), .val (.int (0 : Int32)), .val (.int (Int32.ofNat ee)), .val (.int (Int32.ofNat cs.length)), .unset] [(.int ((Int32.ofNat ee) - (0 : Int32)))]))
    rw [own_sub0]
    show own_Go p e below _ (T_9.setTop (mkF m 25 #[.val (.ref a1), .val (.int (0 : Int32)), .val (.int (Int32.ofNat ee)), .val (.int (Int32.ofNat cs.length)), .unset] [(.int (Int32.ofNat ee))]))
    refine own_via (fun _ => XS.istore X_9.here hx rfl (hb hby d31_25) rfl (l' := #[.val (.ref a1), .val (.int (0 : Int32)), .val (.int (Int32.ofNat ee)), .val (.int (Int32.ofNat cs.length)), .val (.int (Int32.ofNat ee))]) rfl) ?_
    show own_Go p e below _ (T_9.setTop (mkF m 27 #[.val (.ref a1), .val (.int (0 : Int32)), .val (.int (Int32.ofNat ee)), .val (.int (Int32.ofNat cs.length)), .val (.int (Int32.ofNat ee))] []))
    refine own_aloadN X_9 hx (hb hby d31_27) (q := 28) rfl rfl rfl ?_
    obtain ⟨cq_10, kq_10, q_10a, q_10b, q_10c⟩ := isOf hZ e_9 E1
    obtain ⟨_, _, ⟨T_10, L_10, k_10, n_10⟩, -, X_10, ⟨Lc_10, hQ_10, l_10, y_10, z_10⟩, st_10⟩ := X_9.virtualBack hx (y := (⟨"java/lang/String", "isLatin1", "()Z"⟩ : MethodName)) (z := (⟨"java/lang/String", "isLatin1", "()Z"⟩ : MethodName)) hown (mvT hZ (own_w hw 108 rfl)) (mvT hZ (own_w hw 109 rfl)) (notFace_of_selects (args := #[]) (mvT hZ (own_w hw 111 rfl))) (mvT hZ (own_w hw 111 rfl)) (mvT hZ (own_w hw 110 rfl)) (by decide) (backOf (W := 0) (rmlatin1 l Z a0 hw [] a1 cz h0 n0 Z0 O0 Scs hcs C1) hZ (own_w hw 112 rfl) (own_w hw 24 rfl) (by decide) (by decide)) q_10a q_10c (g := (mkF m 28 #[.val (.ref a1), .val (.int (0 : Int32)), .val (.int (Int32.ofNat ee)), .val (.int (Int32.ofNat cs.length)), .val (.int (Int32.ofNat ee))] [(.ref a1)])) rfl (by rw [hml]; rfl) (Steps.refl _) (argsL := []) (rest := []) (lenOf pd_16 rfl) rfl (by show 2 * 0 + _ ≤ _; exact Nat.le_of_eq rfl) (hb hby d31_28) (fun _ _ => ⟨rfl, e_9, (by decide : 0 + 0 ≤ _), (by decide : 0 + 0 ≤ _)⟩)
    dsimp only [Pt.U, Pt.locs, Pt.cells, Pt.slots] at X_10 l_10 y_10 z_10 st_10 hQ_10
    subst l_10 y_10 z_10
    obtain ⟨rfl, Nq_10, e_10⟩ := hQ_10
    have N_10 := Fr.app N_9 Nq_10
    refine own_via (fun _ k => st_10.trans k) ?_
    show own_Go p e below _ (T_10.setTop (mkF m 31 #[.val (.ref a1), .val (.int (0 : Int32)), .val (.int (Int32.ofNat ee)), .val (.int (Int32.ofNat cs.length)), .val (.int (Int32.ofNat ee))] [(.int (0 : Int32))]))
    refine own_via (fun _ => XS.ifYes X_10.here hx rfl (pc0 := 31) (pc' := 47) rfl (hb hby d31_31) rfl ((if0 _ _).trans (teq ((by decide) : (0 : Int32) = (0 : Int32))).1) (by decide) (by decide)) ?_
    show own_Go p e below _ (T_10.setTop (mkF m 47 #[.val (.ref a1), .val (.int (0 : Int32)), .val (.int (Int32.ofNat ee)), .val (.int (Int32.ofNat cs.length)), .val (.int (Int32.ofNat ee))] []))
    refine own_aloadN X_10 hx (hb hby d31_47) (q := 48) rfl rfl rfl ?_
    obtain ⟨T_11, X_11, e_11, st_11⟩ := getF X_10 hx hZ hown (host := "") (Or.inl (own_w hw 68 rfl)) Via.refl e_10 V1 (g := (mkF m 48 #[.val (.ref a1), .val (.int (0 : Int32)), .val (.int (Int32.ofNat ee)), .val (.int (Int32.ofNat cs.length)), .val (.int (Int32.ofNat ee))] [(.ref a1)])) rfl rfl (hb hby d31_48)
    refine own_via st_11 ?_
    show own_Go p e below _ (T_11.setTop (mkF m 51 #[.val (.ref a1), .val (.int (0 : Int32)), .val (.int (Int32.ofNat ee)), .val (.int (Int32.ofNat cs.length)), .val (.int (Int32.ofNat ee))] [(.ref t1)]))
    refine own_iloadN X_11 hx (hb hby d31_51) (q := 52) rfl rfl ?_
    refine own_iload X_11 hx (hb hby d31_52) (q := 54) rfl rfl ?_
    obtain ⟨_, _, ⟨T_12, L_12, k_12, n_12⟩, -, X_12, ⟨Lc_12, hQ_12, l_12, y_12, z_12⟩, st_12⟩ := Jvm.LawKit.callS X_11 hx (y := (⟨"java/lang/StringUTF16", "newString", "([BII)Ljava/lang/String;"⟩ : MethodName)) hown (mvT hZ (own_w hw 150 rfl)) (mvT hZ (own_w hw 151 rfl)) (mvT hZ (own_w hw 38 rfl)) (mvT hZ (own_w hw 152 rfl)) (by decide) (backOf (W := 0) (rmnsU l Z a0 hw [] t1 k1 cs ee cz sf h0 n0 Z0 O0 Sad Shi Slo Scs hcs Ssf hsf B1 hl hbd he he0) hZ (own_w hw 152 rfl) (own_w hw 38 rfl) (by decide) (by decide)) (g := (mkF m 54 #[.val (.ref a1), .val (.int (0 : Int32)), .val (.int (Int32.ofNat ee)), .val (.int (Int32.ofNat cs.length)), .val (.int (Int32.ofNat ee))] [(.int (Int32.ofNat ee)), (.int (0 : Int32)), (.ref t1)])) rfl (by rw [hml]; rfl) (argsL := [(.ref t1), (.int (0 : Int32)), (.int (Int32.ofNat ee))]) (rest := []) (lenOf pd_28 rfl) rfl (by show 2 * 0 + _ ≤ _; exact Nat.le_of_eq rfl) (hb hby d31_54) (fun _ _ => ⟨rfl, e_11, (by decide : 0 + 3 ≤ _), (by decide : 0 + 313 ≤ _)⟩)
    dsimp only [Pt.U, Pt.locs, Pt.cells, Pt.slots] at X_12 l_12 y_12 z_12 st_12 hQ_12
    subst l_12 y_12 z_12
    obtain ⟨r_13, rfl, Nq_12, K_12q, q_12_0⟩ := hQ_12
    have N_12 := Fr.app N_10 Nq_12
    refine own_via st_12 ?_
    show own_Go p e below _ (T_12.setTop (mkF m 57 #[.val (.ref a1), .val (.int (0 : Int32)), .val (.int (Int32.ofNat ee)), .val (.int (Int32.ofNat cs.length)), .val (.int (Int32.ofNat ee))] [(.ref r_13)]))
    have K_14 : Keep h0 T_12.heap [] := Keep.trans (ws := []) (Keep.refl h0 []) K_12q all0
    exact own_retv X_12 Bd.notSynchronized hx Bd.returns rfl (Or.inr (Or.inr (Or.inr (Or.inr ⟨rfl, rfl, rfl⟩)))) (hb hby d31_57) (by decide) (by decide) ⟨r_13, rfl, N_12, K_14, q_12_0⟩
theorem own_itle {cs : List Int32} : ∀ k, own_it cs k 0 ≤ cs.length
  | 0 => Nat.zero_le _
  | k + 1 => by rw [own_its]; exact own_nxle (own_itle k)
theorem own_fix {cs : List Int32} {j : Nat} (h : cs.length ≤ own_it cs j 0) : ∀ d, own_it cs (j + d) 0 = own_it cs j 0
  | 0 => rfl
  | d + 1 => by
    rw [← Nat.add_assoc, own_its, own_fix h d]
    exact own_nx0 (by omega)
theorem own_fix100 {cs : List Int32} {j : Nat} (hj : j ≤ 100) (h : cs.length ≤ own_it cs j 0) : own_it cs j 0 = own_it cs 100 0 := by
  have q := own_fix h (100 - j)
  rw [show j + (100 - j) = 100 from by omega] at q
  exact q.symm
theorem own_itpos {cs : List Int32} (h : 0 < cs.length) : ∀ k, 0 < own_it cs (k + 1) 0
  | 0 => by
    rw [own_its, own_itz]
    rcases own_nxc cs 0 with ⟨h1, h2⟩ | ⟨h1, h2⟩ | ⟨h1, h2⟩ <;> omega
  | k + 1 => by rw [own_its]; exact Nat.lt_of_lt_of_le (own_itpos h k) (own_nxge cs _)

theorem d17_0 : decode prog_7_method_2_code 0 = .ok (.iconst 0, 1) := by decide +kernel
theorem d17_1 : decode prog_7_method_2_code 1 = .ok (.istore_n 1, 1) := by decide +kernel
theorem d17_2 : decode prog_7_method_2_code 2 = .ok (.iconst 0, 1) := by decide +kernel
theorem d17_3 : decode prog_7_method_2_code 3 = .ok (.istore_n 2, 1) := by decide +kernel
theorem d17_4 : decode prog_7_method_2_code 4 = .ok (.iload_n 2, 1) := by decide +kernel
theorem d17_5 : decode prog_7_method_2_code 5 = .ok (.bipush 100, 2) := by decide +kernel
theorem d17_7 : decode prog_7_method_2_code 7 = .ok (.if_icmp .ge 24, 3) := by decide +kernel
theorem d17_10 : decode prog_7_method_2_code 10 = .ok (.iload_n 1, 1) := by decide +kernel
theorem d17_11 : decode prog_7_method_2_code 11 = .ok (.aload_n 0, 1) := by decide +kernel
theorem d17_12 : decode prog_7_method_2_code 12 = .ok (.invokevirtual 9, 3) := by decide +kernel
theorem d17_15 : decode prog_7_method_2_code 15 = .ok (.if_icmp .ge 16, 3) := by decide +kernel
theorem d17_18 : decode prog_7_method_2_code 18 = .ok (.aload_n 0, 1) := by decide +kernel
theorem d17_19 : decode prog_7_method_2_code 19 = .ok (.iload_n 1, 1) := by decide +kernel
theorem d17_20 : decode prog_7_method_2_code 20 = .ok (.iconst 1, 1) := by decide +kernel
theorem d17_21 : decode prog_7_method_2_code 21 = .ok (.invokevirtual 15, 3) := by decide +kernel
theorem d17_24 : decode prog_7_method_2_code 24 = .ok (.istore_n 1, 1) := by decide +kernel
theorem d17_25 : decode prog_7_method_2_code 25 = .ok (.iinc 2 1, 3) := by decide +kernel
theorem d17_28 : decode prog_7_method_2_code 28 = .ok (.goto (-24), 3) := by decide +kernel
theorem d17_31 : decode prog_7_method_2_code 31 = .ok (.aload_n 0, 1) := by decide +kernel
theorem d17_32 : decode prog_7_method_2_code 32 = .ok (.iconst 0, 1) := by decide +kernel
theorem d17_33 : decode prog_7_method_2_code 33 = .ok (.iload_n 1, 1) := by decide +kernel
theorem d17_34 : decode prog_7_method_2_code 34 = .ok (.invokevirtual 19, 3) := by decide +kernel
theorem d17_37 : decode prog_7_method_2_code 37 = .ok (.areturn, 1) := by decide +kernel
theorem pd_29 : parseMethodDescriptor "(II)Ljava/lang/String;" = some ⟨[.int, .int], some (.object "java/lang/String")⟩ := by decide +kernel
theorem pn_com_example_tender_tender_mailbox_MailAbstract : plainName "com/example/tender/tender/mailbox/MailAbstract" = true := by first | (simp [plainName, overriddenIn]; done) | decide +kernel
theorem ef_of (m : MethodId) (a1 : Addr) : entryFrame m #[(.ref a1)] 3 = mkF m 0 #[.val (.ref a1), .unset, .unset] [] := by first | (simp [entryFrame, mkF, argsToLocals, Value.category]; done) | rfl
def Qof (Z : State) (a1 : Addr) (cs : List Int32) (cz : Int32) (sf : Value) (h0 : Heap) (n0 : Nat) (v : Option Value) (h : Heap) (L : List Loc) : Prop := ∃ r : Addr, v = some (.ref r) ∧ Fr n0 L ∧ Keep h0 h [] ∧ (own_S Z h r (cs.take (own_it cs 100 0)))
theorem rmof (l : Launch) (Z : State) (a0 : Array Value) (hw : ∀ d ∈ tables_1, d.before a0 Z = true) (ws : List Jvm.Cond) (a1 : Addr) (cs : List Int32) (cz : Int32) (sf : Value) (h0 : Heap) (n0 : Nat) (Z0 : n0 ≤ h0.size) (O0 : Old Z n0 h0) (Sad : Sta Z Z.heap "java/lang/StringUTF16" "$assertionsDisabled" "Z" (.int (1 : Int32))) (Shi : Sta Z Z.heap "java/lang/StringUTF16" "HI_BYTE_SHIFT" "I" (.int (0 : Int32))) (Slo : Sta Z Z.heap "java/lang/StringUTF16" "LO_BYTE_SHIFT" "I" (.int (8 : Int32))) (Scs : Sta Z Z.heap "java/lang/String" "COMPACT_STRINGS" "Z" (.int cz)) (hcs : ¬ (cz = (0 : Int32))) (Ssf : Sta Z Z.heap "jdk/internal/util/Preconditions" "SIOOBE_FORMATTER" "Ljava/util/function/BiFunction;" sf) (hsf : sf.isRef = true) (S1 : own_S Z h0 a1 cs) :
    MetFree l (⟨"com/example/tender/tender/mailbox/MailAbstract", "of", "(Ljava/lang/String;)Ljava/lang/String;"⟩ : MethodName) (head1 (Jvm.Cond.code (⟨"com/example/tender/tender/mailbox/MailAbstract", "of", "(Ljava/lang/String;)Ljava/lang/String;"⟩ : MethodName) prog_7_method_2_code 3 (some (.object "java/lang/String")) :: ws) ({ frames := 7, cells := 3, slots := 313, locals := 140 } : Room)) (fun a U => a = #[(.ref a1)] ∧ Z.Warmed39 U.vm ∧ U.heap = h0) (fun _ _ _ _ _ => True) (fun _ U o U' => ∃ v L, o = .returned v ∧ Qof Z a1 cs cz sf h0 n0 v U'.heap L ∧ FrameEnd U o U' L ({ frames := 7, cells := 3, slots := 313, locals := 140 } : Room).cells ({ frames := 7, cells := 3, slots := 313, locals := 140 } : Room).slots) := by
  refine MetFree.of_bodySF (plainFor_of_name pn_com_example_tender_tender_mailbox_MailAbstract) hisR ?_
  intro p e s m args below meth c s₁ Bd hml0 hP hK
  obtain ⟨rfl, hZ, hH0⟩ := hP
  have hx := Bd.exec
  have hby := Bd.bytes
  have hml : c.maxLocals = 3 := hml0
  have hown : s.vm.findClass "com/example/tender/tender/mailbox/MailAbstract" = some m.cls := findClass_of_methodNamed Bd.named
  have hnm := (name_of_methodNamed Bd.named Bd.method).1
  have X0 : Stand p l e ({ frames := 7, cells := 3, slots := 313, locals := 140 } : Room) s m #[(.ref a1)] below meth c s₁ [] 0 0 := Stand.of_body Bd
  have e0 : s₁.heap = h0 := by rw [← hH0, Bd.state]; rfl
  have N0 := Fr.nil n0
  refine own_cast (ef_of m a1) ?_
  show own_Go p e below (fun o U' => ∃ v L, o = .returned v ∧ Qof Z a1 cs cz sf h0 n0 v U'.heap L ∧ FrameEnd s o U' L ({ frames := 7, cells := 3, slots := 313, locals := 140 } : Room).cells ({ frames := 7, cells := 3, slots := 313, locals := 140 } : Room).slots) (s₁.setTop (mkF m 0 #[.val (.ref a1), .unset, .unset] []))
  have S1' := S1
  obtain ⟨E1, -, hbd, hl⟩ := S1'
  refine own_iconst X0 hx (hb hby d17_0) (q := 1) (z := (0 : Int32)) rfl rfl ?_
  refine own_via (fun _ => XS.istoreN X0.here hx rfl (hb hby d17_1) rfl (l' := #[.val (.ref a1), .val (.int (0 : Int32)), .unset]) rfl) ?_
  show own_Go p e below _ (s₁.setTop (mkF m 2 #[.val (.ref a1), .val (.int (0 : Int32)), .unset] []))
  refine own_iconst X0 hx (hb hby d17_2) (q := 3) (z := (0 : Int32)) rfl rfl ?_
  refine own_via (fun _ => XS.istoreN X0.here hx rfl (hb hby d17_3) rfl (l' := #[.val (.ref a1), .val (.int (0 : Int32)), .val (.int (0 : Int32))]) rfl) ?_
  show own_Go p e below _ (s₁.setTop (mkF m 4 #[.val (.ref a1), .val (.int (0 : Int32)), .val (.int (0 : Int32))] []))
  have kj_1 : ∀ (T_2 : State) (L_3 : List Loc) (x : Nat) (hx1 : x = own_it cs 100 0) (y : Nat) (X_5 : Stand p l e ({ frames := 7, cells := 3, slots := 313, locals := 140 } : Room) s m #[(.ref a1)] below meth c T_2 L_3 0 0) (e_5 : T_2.heap = h0) (N_5 : Fr n0 L_3), own_Go p e below (fun o U' => ∃ v L, o = .returned v ∧ Qof Z a1 cs cz sf h0 n0 v U'.heap L ∧ FrameEnd s o U' L ({ frames := 7, cells := 3, slots := 313, locals := 140 } : Room).cells ({ frames := 7, cells := 3, slots := 313, locals := 140 } : Room).slots) (T_2.setTop (mkF m 31 #[.val (.ref a1), .val (.int (Int32.ofNat x)), .val (.int (Int32.ofNat y))] [])) := by
    intro T_2 L_3 x hx1 y X_5 e_5 N_5
    refine own_aloadN X_5 hx (hb hby d17_31) (q := 32) rfl rfl rfl ?_
    refine own_iconst X_5 hx (hb hby d17_32) (q := 33) (z := (0 : Int32)) rfl rfl ?_
    refine own_iloadN X_5 hx (hb hby d17_33) (q := 34) rfl rfl ?_
    by_cases hxe : x = cs.length
    · rw [hxe]
      show own_Go p e below _ (T_2.setTop (mkF m 34 #[.val (.ref a1), .val (.int (Int32.ofNat cs.length)), .val (.int (Int32.ofNat y))] [(.int (Int32.ofNat cs.length)), (.int (0 : Int32)), (.ref a1)]))
      obtain ⟨cq_6, kq_6, q_6a, q_6b, q_6c⟩ := isOf hZ e_5 E1
      obtain ⟨_, _, ⟨T_6, L_6, k_6, n_6⟩, -, X_6, ⟨Lc_6, hQ_6, l_6, y_6, z_6⟩, st_6⟩ := X_5.virtualBack hx (y := (⟨"java/lang/String", "substring", "(II)Ljava/lang/String;"⟩ : MethodName)) (z := (⟨"java/lang/String", "substring", "(II)Ljava/lang/String;"⟩ : MethodName)) hown (mvT hZ (own_w hw 138 rfl)) (mvT hZ (own_w hw 139 rfl)) (notFace_of_selects (args := #[]) (mvT hZ (own_w hw 141 rfl))) (mvT hZ (own_w hw 141 rfl)) (mvT hZ (own_w hw 140 rfl)) (by decide) (backOf (W := 0) (rmsubAll l Z a0 hw [] a1 cs cz sf h0 n0 Z0 O0 Scs hcs Ssf hsf S1 E1 hl) hZ (own_w hw 142 rfl) (own_w hw 24 rfl) (by decide) (by decide)) q_6a q_6c (g := (mkF m 34 #[.val (.ref a1), .val (.int (Int32.ofNat cs.length)), .val (.int (Int32.ofNat y))] [(.int (Int32.ofNat cs.length)), (.int (0 : Int32)), (.ref a1)])) rfl (by rw [hml]; rfl) (Steps.refl _) (argsL := [(.int (0 : Int32)), (.int (Int32.ofNat cs.length))]) (rest := []) (lenOf pd_29 rfl) rfl (by show 2 * 0 + _ ≤ _; exact Nat.le_of_eq rfl) (hb hby d17_34) (fun _ _ => ⟨rfl, e_5, (by decide : 0 + 0 ≤ _), (by decide : 0 + 0 ≤ _)⟩)
      dsimp only [Pt.U, Pt.locs, Pt.cells, Pt.slots] at X_6 l_6 y_6 z_6 st_6 hQ_6
      subst l_6 y_6 z_6
      obtain ⟨rfl, Nq_6, e_6⟩ := hQ_6
      have N_6 := Fr.app N_5 Nq_6
      refine own_via (fun _ k => st_6.trans k) ?_
      show own_Go p e below _ (T_6.setTop (mkF m 37 #[.val (.ref a1), .val (.int (Int32.ofNat cs.length)), .val (.int (Int32.ofNat y))] [(.ref a1)]))
      exact own_retv X_6 Bd.notSynchronized hx Bd.returns rfl (Or.inr (Or.inr (Or.inr (Or.inr ⟨rfl, rfl, rfl⟩)))) (hb hby d17_37) (by decide) (by decide) (by rw [e_6]; exact ⟨a1, rfl, N_6, (Keep.refl h0 []), (by rw [← hx1, hxe, List.take_length]; exact S1)⟩)
    · have hxl : x < cs.length := by have := own_itle (cs := cs) 100; omega
      have hx0 : 0 < x := by rw [hx1]; exact own_itpos (by omega) 99
      obtain ⟨cq_7, kq_7, q_7a, q_7b, q_7c⟩ := isOf hZ e_5 E1
      obtain ⟨_, _, ⟨T_7, L_7, k_7, n_7⟩, -, X_7, ⟨Lc_7, hQ_7, l_7, y_7, z_7⟩, st_7⟩ := X_5.virtualBack hx (y := (⟨"java/lang/String", "substring", "(II)Ljava/lang/String;"⟩ : MethodName)) (z := (⟨"java/lang/String", "substring", "(II)Ljava/lang/String;"⟩ : MethodName)) hown (mvT hZ (own_w hw 138 rfl)) (mvT hZ (own_w hw 139 rfl)) (notFace_of_selects (args := #[]) (mvT hZ (own_w hw 141 rfl))) (mvT hZ (own_w hw 141 rfl)) (mvT hZ (own_w hw 140 rfl)) (by decide) (backOf (W := 0) (rmsubPart l Z a0 hw [] a1 cs x cz sf h0 n0 Z0 O0 Sad Shi Slo Scs hcs Ssf hsf S1 hxl hx0) hZ (own_w hw 142 rfl) (own_w hw 24 rfl) (by decide) (by decide)) q_7a q_7c (g := (mkF m 34 #[.val (.ref a1), .val (.int (Int32.ofNat x)), .val (.int (Int32.ofNat y))] [(.int (Int32.ofNat x)), (.int (0 : Int32)), (.ref a1)])) rfl (by rw [hml]; rfl) (Steps.refl _) (argsL := [(.int (0 : Int32)), (.int (Int32.ofNat x))]) (rest := []) (lenOf pd_29 rfl) rfl (by show 2 * 0 + _ ≤ _; exact Nat.le_of_eq rfl) (hb hby d17_34) (fun _ _ => ⟨rfl, e_5, (by decide : 0 + 3 ≤ _), (by decide : 0 + 313 ≤ _)⟩)
      dsimp only [Pt.U, Pt.locs, Pt.cells, Pt.slots] at X_7 l_7 y_7 z_7 st_7 hQ_7
      subst l_7 y_7 z_7
      obtain ⟨r_8, rfl, Nq_7, K_7q, q_7_0⟩ := hQ_7
      have N_7 := Fr.app N_5 Nq_7
      refine own_via (fun _ k => st_7.trans k) ?_
      show own_Go p e below _ (T_7.setTop (mkF m 37 #[.val (.ref a1), .val (.int (Int32.ofNat x)), .val (.int (Int32.ofNat y))] [(.ref r_8)]))
      have K_9 : Keep h0 T_7.heap [] := Keep.trans (ws := []) (Keep.refl h0 []) K_7q all0
      exact own_retv X_7 Bd.notSynchronized hx Bd.returns rfl (Or.inr (Or.inr (Or.inr (Or.inr ⟨rfl, rfl, rfl⟩)))) (hb hby d17_37) (by decide) (by decide) ⟨r_8, rfl, N_7, K_9, (hx1 ▸ q_7_0)⟩
  have loop_10 : ∀ (f_11 : Nat) (T_12 : State) (L_13 : List Loc) (j : Nat) (hj : j ≤ 100) (X_11 : Stand p l e ({ frames := 7, cells := 3, slots := 313, locals := 140 } : Room) s m #[(.ref a1)] below meth c T_12 L_13 0 0) (e_11 : T_12.heap = h0) (N_11 : Fr n0 L_13) (hf_11 : 100 - j = f_11), own_Go p e below (fun o U' => ∃ v L, o = .returned v ∧ Qof Z a1 cs cz sf h0 n0 v U'.heap L ∧ FrameEnd s o U' L ({ frames := 7, cells := 3, slots := 313, locals := 140 } : Room).cells ({ frames := 7, cells := 3, slots := 313, locals := 140 } : Room).slots) (T_12.setTop (mkF m 4 #[.val (.ref a1), .val (.int (Int32.ofNat (own_it cs j 0))), .val (.int (Int32.ofNat j))] [])) := by
    intro f_11
    induction f_11 using Nat.strongRecOn with
    | _ f_11 ih_11 =>
      intro T_12 L_13 j hj X_11 e_11 N_11 hf_11
      show own_Go p e below _ (T_12.setTop (mkF m 4 #[.val (.ref a1), .val (.int (Int32.ofNat (own_it cs j 0))), .val (.int (Int32.ofNat j))] []))
      refine own_iloadN X_11 hx (hb hby d17_4) (q := 5) rfl rfl ?_
      refine own_bipush X_11 hx (hb hby d17_5) (q := 7) (z := (100 : Int32)) rfl rfl ?_
      by_cases h100 : j < 100
      · refine own_via (fun _ => XS.icmpNo X_11.here hx rfl (hb hby d17_7) rfl (tlt ((own_lt (i := j) (j := 100) (by omega) (by omega)).mpr h100 : (Int32.ofNat j) < (100 : Int32))).2.1) ?_
        show own_Go p e below _ (T_12.setTop (mkF m 10 #[.val (.ref a1), .val (.int (Int32.ofNat (own_it cs j 0))), .val (.int (Int32.ofNat j))] []))
        refine own_iloadN X_11 hx (hb hby d17_10) (q := 11) rfl rfl ?_
        refine own_aloadN X_11 hx (hb hby d17_11) (q := 12) rfl rfl rfl ?_
        obtain ⟨cq_15, kq_15, q_15a, q_15b, q_15c⟩ := isOf hZ e_11 E1
        obtain ⟨_, _, ⟨T_15, L_15, k_15, n_15⟩, -, X_15, ⟨Lc_15, hQ_15, l_15, y_15, z_15⟩, st_15⟩ := X_11.virtualBack hx (y := (⟨"java/lang/String", "length", "()I"⟩ : MethodName)) (z := (⟨"java/lang/String", "length", "()I"⟩ : MethodName)) hown (mvT hZ (own_w hw 74 rfl)) (mvT hZ (own_w hw 75 rfl)) (notFace_of_selects (args := #[]) (mvT hZ (own_w hw 77 rfl))) (mvT hZ (own_w hw 77 rfl)) (mvT hZ (own_w hw 76 rfl)) (by decide) (backOf (W := 1) (rmlength l Z a0 hw [] a1 cs cz h0 n0 Z0 O0 Scs hcs S1) hZ (own_w hw 78 rfl) (own_w hw 24 rfl) (by decide) (by decide)) q_15a q_15c (g := (mkF m 12 #[.val (.ref a1), .val (.int (Int32.ofNat (own_it cs j 0))), .val (.int (Int32.ofNat j))] [(.ref a1), (.int (Int32.ofNat (own_it cs j 0)))])) rfl (by rw [hml]; rfl) (Steps.refl _) (argsL := []) (rest := [(.int (Int32.ofNat (own_it cs j 0)))]) (lenOf pd_17 rfl) rfl (by show 2 * 0 + _ ≤ _; exact Nat.le_of_eq rfl) (hb hby d17_12) (fun _ _ => ⟨rfl, e_11, (by decide : 0 + 0 ≤ _), (by decide : 0 + 0 ≤ _)⟩)
        dsimp only [Pt.U, Pt.locs, Pt.cells, Pt.slots] at X_15 l_15 y_15 z_15 st_15 hQ_15
        subst l_15 y_15 z_15
        obtain ⟨rfl, Nq_15, e_15⟩ := hQ_15
        have N_15 := Fr.app N_11 Nq_15
        refine own_via (fun _ k => st_15.trans k) ?_
        show own_Go p e below _ (T_15.setTop (mkF m 15 #[.val (.ref a1), .val (.int (Int32.ofNat (own_it cs j 0))), .val (.int (Int32.ofNat j))] [(.int (Int32.ofNat cs.length)), (.int (Int32.ofNat (own_it cs j 0)))]))
        have hol := own_itle (cs := cs) j
        by_cases hof : own_it cs j 0 < cs.length
        · refine own_via (fun _ => XS.icmpNo X_15.here hx rfl (hb hby d17_15) rfl (tlt ((own_lt (i := own_it cs j 0) (j := cs.length) (by omega) (by omega)).mpr hof : (Int32.ofNat (own_it cs j 0)) < (Int32.ofNat cs.length))).2.1) ?_
          show own_Go p e below _ (T_15.setTop (mkF m 18 #[.val (.ref a1), .val (.int (Int32.ofNat (own_it cs j 0))), .val (.int (Int32.ofNat j))] []))
          refine own_aloadN X_15 hx (hb hby d17_18) (q := 19) rfl rfl rfl ?_
          refine own_iloadN X_15 hx (hb hby d17_19) (q := 20) rfl rfl ?_
          refine own_iconst X_15 hx (hb hby d17_20) (q := 21) (z := (1 : Int32)) rfl rfl ?_
          obtain ⟨cq_16, kq_16, q_16a, q_16b, q_16c⟩ := isOf hZ e_15 E1
          obtain ⟨_, _, ⟨T_16, L_16, k_16, n_16⟩, -, X_16, ⟨Lc_16, hQ_16, l_16, y_16, z_16⟩, st_16⟩ := X_15.virtualBack hx (y := (⟨"java/lang/String", "offsetByCodePoints", "(II)I"⟩ : MethodName)) (z := (⟨"java/lang/String", "offsetByCodePoints", "(II)I"⟩ : MethodName)) hown (mvT hZ (own_w hw 84 rfl)) (mvT hZ (own_w hw 85 rfl)) (notFace_of_selects (args := #[]) (mvT hZ (own_w hw 87 rfl))) (mvT hZ (own_w hw 87 rfl)) (mvT hZ (own_w hw 86 rfl)) (by decide) (backOf (W := 0) (rmobcS l Z a0 hw [] a1 cs (own_it cs j 0) cz sf h0 n0 Z0 O0 Sad Shi Slo Scs hcs Ssf hsf S1 E1 hl hof) hZ (own_w hw 88 rfl) (own_w hw 24 rfl) (by decide) (by decide)) q_16a q_16c (g := (mkF m 21 #[.val (.ref a1), .val (.int (Int32.ofNat (own_it cs j 0))), .val (.int (Int32.ofNat j))] [(.int (1 : Int32)), (.int (Int32.ofNat (own_it cs j 0))), (.ref a1)])) rfl (by rw [hml]; rfl) (Steps.refl _) (argsL := [(.int (Int32.ofNat (own_it cs j 0))), (.int (1 : Int32))]) (rest := []) (lenOf pd_20 rfl) rfl (by show 2 * 0 + _ ≤ _; exact Nat.le_of_eq rfl) (hb hby d17_21) (fun _ _ => ⟨rfl, e_15, (by decide : 0 + 0 ≤ _), (by decide : 0 + 0 ≤ _)⟩)
          dsimp only [Pt.U, Pt.locs, Pt.cells, Pt.slots] at X_16 l_16 y_16 z_16 st_16 hQ_16
          subst l_16 y_16 z_16
          obtain ⟨rfl, Nq_16, e_16⟩ := hQ_16
          have N_16 := Fr.app N_15 Nq_16
          refine own_via (fun _ k => st_16.trans k) ?_
          show own_Go p e below _ (T_16.setTop (mkF m 24 #[.val (.ref a1), .val (.int (Int32.ofNat (own_it cs j 0))), .val (.int (Int32.ofNat j))] [(.int (Int32.ofNat (own_nx cs (own_it cs j 0))))]))
          refine own_via (fun _ => XS.istoreN X_16.here hx rfl (hb hby d17_24) rfl (l' := #[.val (.ref a1), .val (.int (Int32.ofNat (own_nx cs (own_it cs j 0)))), .val (.int (Int32.ofNat j))]) rfl) ?_
          show own_Go p e below _ (T_16.setTop (mkF m 25 #[.val (.ref a1), .val (.int (Int32.ofNat (own_nx cs (own_it cs j 0)))), .val (.int (Int32.ofNat j))] []))
          refine own_via (fun _ => XS.iinc X_16.here hx rfl (hb hby d17_25) rfl (l' := #[.val (.ref a1), .val (.int (Int32.ofNat (own_nx cs (own_it cs j 0)))), .val (.int ((Int32.ofNat j) + (1 : Int32)))]) rfl) ?_
          show own_Go p e below _ (T_16.setTop (mkF m 28 #[.val (.ref a1), .val (.int (Int32.ofNat (own_nx cs (own_it cs j 0)))), .val (.int ((Int32.ofNat j) + (1 : Int32)))] []))
          rw [own_succ]
          show own_Go p e below _ (T_16.setTop (mkF m 28 #[.val (.ref a1), .val (.int (Int32.ofNat (own_nx cs (own_it cs j 0)))), .val (.int (Int32.ofNat (j + 1)))] []))
          refine own_via (fun _ => XS.goto X_16.here hx rfl (pc0 := 28) (pc' := 4) rfl (hb hby d17_28) (by decide) (by decide)) ?_
          show own_Go p e below _ (T_16.setTop (mkF m 4 #[.val (.ref a1), .val (.int (Int32.ofNat (own_nx cs (own_it cs j 0)))), .val (.int (Int32.ofNat (j + 1)))] []))
          exact ih_11 (100 - (j + 1)) (by omega) _ _ (j + 1) (by omega) X_16 e_16 N_16 rfl
        · refine own_via (fun _ => XS.icmpYes X_15.here hx rfl (pc0 := 15) (pc' := 31) rfl (hb hby d17_15) rfl (flt (fun q => hof ((own_lt (i := own_it cs j 0) (j := cs.length) (by omega) (by omega)).mp q) : ¬ ((Int32.ofNat (own_it cs j 0)) < (Int32.ofNat cs.length)))).2.1 (by decide) (by decide)) ?_
          show own_Go p e below _ (T_15.setTop (mkF m 31 #[.val (.ref a1), .val (.int (Int32.ofNat (own_it cs j 0))), .val (.int (Int32.ofNat j))] []))
          exact kj_1 _ _ (own_it cs j 0) (own_fix100 hj (by omega)) j X_15 e_15 N_15
      · refine own_via (fun _ => XS.icmpYes X_11.here hx rfl (pc0 := 7) (pc' := 31) rfl (hb hby d17_7) rfl (flt (fun q => h100 ((own_lt (i := j) (j := 100) (by omega) (by omega)).mp q) : ¬ ((Int32.ofNat j) < (100 : Int32)))).2.1 (by decide) (by decide)) ?_
        show own_Go p e below _ (T_12.setTop (mkF m 31 #[.val (.ref a1), .val (.int (Int32.ofNat (own_it cs j 0))), .val (.int (Int32.ofNat j))] []))
        exact kj_1 _ _ (own_it cs j 0) (by rw [show j = 100 from by omega]) j X_11 e_11 N_11
  exact loop_10 (100 - 0) _ _ 0 (by decide) X0 e0 N0 rfl
def own_t (c0 c1 d0 d1 d2 d3 d4 d5 : Int32) : List Int32 := c0 :: c1 :: (List.replicate 95 0 ++ [d0, d1, d2, d3, d4, d5])
theorem own_tl (c0 c1 d0 d1 d2 d3 d4 d5 : Int32) : (own_t c0 c1 d0 d1 d2 d3 d4 d5).length = 103 := by simp [own_t]
theorem own_tz (c0 c1 d0 d1 d2 d3 d4 d5 : Int32) {i : Nat} (h1 : 2 ≤ i) (h2 : i < 97) : (own_t c0 c1 d0 d1 d2 d3 d4 d5).getD i 0 = 0 := by
  obtain ⟨j, rfl⟩ : ∃ j, i = j + 2 := ⟨i - 2, by omega⟩
  have e : (own_t c0 c1 d0 d1 d2 d3 d4 d5).getD (j + 2) 0 = (List.replicate 95 (0 : Int32) ++ [d0, d1, d2, d3, d4, d5]).getD j 0 := by first | rfl | simp [own_t]
  rw [e, List.getD_eq_getElem?_getD, List.getElem?_append_left (by rw [List.length_replicate]; omega), List.getElem?_replicate, if_pos (by omega)] <;> rfl
theorem own_tnx (c0 c1 d0 d1 d2 d3 d4 d5 : Int32) {i : Nat} (h1 : 1 ≤ i) (h2 : i < 97) : own_nx (own_t c0 c1 d0 d1 d2 d3 d4 d5) i = i + 1 := by
  refine own_nx1 (by rw [own_tl]; omega) fun a b d => ?_
  by_cases hi : i = 1
  · have q : (own_t c0 c1 d0 d1 d2 d3 d4 d5).getD (i + 1) 0 = 0 := own_tz c0 c1 d0 d1 d2 d3 d4 d5 (by omega) (by omega)
    rw [q] at d
    exact absurd d (by decide)
  · have q : (own_t c0 c1 d0 d1 d2 d3 d4 d5).getD i 0 = 0 := own_tz c0 c1 d0 d1 d2 d3 d4 d5 (by omega) h2
    rw [q] at a
    exact absurd a (by decide)
theorem own_tnx0 (c0 c1 d0 d1 d2 d3 d4 d5 : Int32) : own_nx (own_t c0 c1 d0 d1 d2 d3 d4 d5) 0 = if own_hi c0 ∧ own_lo c1 then 2 else 1 := by
  have hl : 0 < (own_t c0 c1 d0 d1 d2 d3 d4 d5).length := by rw [own_tl]; omega
  have hl1 : 0 + 1 < (own_t c0 c1 d0 d1 d2 d3 d4 d5).length := by rw [own_tl]; omega
  by_cases h : own_hi c0 ∧ own_lo c1
  · rw [if_pos h]; exact own_nx2 hl h.1 hl1 h.2
  · rw [if_neg h]; exact own_nx1 hl fun a b d => h ⟨a, d⟩
theorem own_ta {c0 c1 d0 d1 d2 d3 d4 d5 : Int32} (h : ¬ (own_hi c0 ∧ own_lo c1)) : ∀ k, k ≤ 96 → own_it (own_t c0 c1 d0 d1 d2 d3 d4 d5) (k + 1) 0 = k + 1
  | 0, _ => by
    rw [own_its, own_itz, own_tnx0, if_neg h] <;> rfl
  | k + 1, hk => by
    have q := own_ta (d0 := d0) (d1 := d1) (d2 := d2) (d3 := d3) (d4 := d4) (d5 := d5) h k (by omega)
    rw [own_its, q, own_tnx c0 c1 d0 d1 d2 d3 d4 d5 (by omega) (by omega)] <;> omega
theorem own_tb {c0 c1 d0 d1 d2 d3 d4 d5 : Int32} (h : own_hi c0 ∧ own_lo c1) : ∀ k, k ≤ 95 → own_it (own_t c0 c1 d0 d1 d2 d3 d4 d5) (k + 1) 0 = k + 2
  | 0, _ => by
    rw [own_its, own_itz, own_tnx0, if_pos h] <;> rfl
  | k + 1, hk => by
    have q := own_tb (d0 := d0) (d1 := d1) (d2 := d2) (d3 := d3) (d4 := d4) (d5 := d5) h k (by omega)
    rw [own_its, q, own_tnx c0 c1 d0 d1 d2 d3 d4 d5 (by omega) (by omega)] <;> omega
theorem own_tN {c0 c1 d0 d1 d2 d3 d4 d5 : Int32} (h : ¬ (own_hi c0 ∧ own_lo c1)) : own_nx (own_t c0 c1 d0 d1 d2 d3 d4 d5) (own_nx (own_t c0 c1 d0 d1 d2 d3 d4 d5) (own_nx (own_t c0 c1 d0 d1 d2 d3 d4 d5) 97)) = own_it (own_t c0 c1 d0 d1 d2 d3 d4 d5) 100 0 := by
  have q : own_it (own_t c0 c1 d0 d1 d2 d3 d4 d5) 97 0 = 97 := own_ta h 96 (by omega)
  have e : own_it (own_t c0 c1 d0 d1 d2 d3 d4 d5) 100 0 = own_nx (own_t c0 c1 d0 d1 d2 d3 d4 d5) (own_nx (own_t c0 c1 d0 d1 d2 d3 d4 d5) (own_nx (own_t c0 c1 d0 d1 d2 d3 d4 d5) (own_it (own_t c0 c1 d0 d1 d2 d3 d4 d5) 97 0))) := rfl
  rw [e, q]
theorem own_tY {c0 c1 d0 d1 d2 d3 d4 d5 : Int32} (h : own_hi c0 ∧ own_lo c1) : own_nx (own_t c0 c1 d0 d1 d2 d3 d4 d5) (own_nx (own_t c0 c1 d0 d1 d2 d3 d4 d5) (own_nx (own_t c0 c1 d0 d1 d2 d3 d4 d5) (own_nx (own_t c0 c1 d0 d1 d2 d3 d4 d5) 97))) = own_it (own_t c0 c1 d0 d1 d2 d3 d4 d5) 100 0 := by
  have q : own_it (own_t c0 c1 d0 d1 d2 d3 d4 d5) 96 0 = 97 := own_tb h 95 (by omega)
  have e : own_it (own_t c0 c1 d0 d1 d2 d3 d4 d5) 100 0 = own_nx (own_t c0 c1 d0 d1 d2 d3 d4 d5) (own_nx (own_t c0 c1 d0 d1 d2 d3 d4 d5) (own_nx (own_t c0 c1 d0 d1 d2 d3 d4 d5) (own_nx (own_t c0 c1 d0 d1 d2 d3 d4 d5) (own_it (own_t c0 c1 d0 d1 d2 d3 d4 d5) 96 0)))) := rfl
  rw [e, q]
theorem own_min {cs : List Int32} : ∀ k, k ≤ cs.length → k ≤ own_it cs k 0
  | 0, _ => Nat.zero_le _
  | k + 1, h => by
    have q := own_min (cs := cs) k (by omega)
    rw [own_its]
    rcases own_nxc cs (own_it cs k 0) with ⟨h1, h2⟩ | ⟨h1, h2⟩ | ⟨h1, h2⟩ <;> omega
theorem own_nx103 {c0 c1 d0 d1 d2 d3 d4 d5 : Int32} {i : Nat} (h : i ≤ 103) : own_nx (own_t c0 c1 d0 d1 d2 d3 d4 d5) i ≤ 103 := by
  have q := own_nxle (cs := own_t c0 c1 d0 d1 d2 d3 d4 d5) (i := i) (by rw [own_tl]; exact h)
  rwa [own_tl] at q
theorem own_t3 {cs : List Int32} (h : cs.length = 3) : cs.take (own_it cs 100 0) = cs := by
  have q1 := own_min (cs := cs) 3 (by omega)
  have q2 := own_fix100 (cs := cs) (j := 3) (by omega) (by omega)
  rw [← q2]
  exact List.take_of_length_le (by omega)
theorem own_tmem {c0 c1 d0 d1 d2 d3 d4 d5 : Int32} {P : Int32 → Prop} (z : P 0) (h0 : P c0) (h1 : P c1) (h2 : P d0) (h3 : P d1) (h4 : P d2) (h5 : P d3) (h6 : P d4) (h7 : P d5) : ∀ c ∈ (own_t c0 c1 d0 d1 d2 d3 d4 d5), P c := by
  intro c hc
  have hc : c ∈ c0 :: c1 :: (List.replicate 95 (0 : Int32) ++ [d0, d1, d2, d3, d4, d5]) := hc
  rcases List.mem_cons.mp hc with e | hc
  · rw [e]; exact h0
  rcases List.mem_cons.mp hc with e | hc
  · rw [e]; exact h1
  rcases List.mem_append.mp hc with hc | hc
  · rw [(List.mem_replicate.mp hc).2]; exact z
  · simp only [List.mem_cons, List.not_mem_nil, or_false] at hc
    rcases hc with e | e | e | e | e | e <;> rw [e] <;> assumption

theorem own_ck100 (c0 c1 d0 d1 d2 d3 d4 d5 : Int32) : (((((List.replicate 100 (Value.int (0 : Int32))).set 0 (.int c0)).set 1 (.int c1)).set 97 (.int d0)).set 98 (.int d1)).set 99 (.int d2) = ((own_t c0 c1 d0 d1 d2 d3 d4 d5).take 100).map Value.int := rfl
theorem own_ck101 (c0 c1 d0 d1 d2 d3 d4 d5 : Int32) : ((((((List.replicate 101 (Value.int (0 : Int32))).set 0 (.int c0)).set 1 (.int c1)).set 97 (.int d0)).set 98 (.int d1)).set 99 (.int d2)).set 100 (.int d3) = ((own_t c0 c1 d0 d1 d2 d3 d4 d5).take 101).map Value.int := rfl
theorem own_ck102 (c0 c1 d0 d1 d2 d3 d4 d5 : Int32) : (((((((List.replicate 102 (Value.int (0 : Int32))).set 0 (.int c0)).set 1 (.int c1)).set 97 (.int d0)).set 98 (.int d1)).set 99 (.int d2)).set 100 (.int d3)).set 101 (.int d4) = ((own_t c0 c1 d0 d1 d2 d3 d4 d5).take 102).map Value.int := rfl
theorem own_ck103 (c0 c1 d0 d1 d2 d3 d4 d5 : Int32) : ((((((((List.replicate 103 (Value.int (0 : Int32))).set 0 (.int c0)).set 1 (.int c1)).set 97 (.int d0)).set 98 (.int d1)).set 99 (.int d2)).set 100 (.int d3)).set 101 (.int d4)).set 102 (.int d5) = (own_t c0 c1 d0 d1 d2 d3 d4 d5).map Value.int := rfl
theorem d5_0 : decode method_6_code 0 = .ok (.aload_n 0, 1) := by decide +kernel
theorem d5_1 : decode method_6_code 1 = .ok (.iconst 0, 1) := by decide +kernel
theorem d5_2 : decode method_6_code 2 = .ok (.aload_n 1, 1) := by decide +kernel
theorem d5_3 : decode method_6_code 3 = .ok (.iconst 0, 1) := by decide +kernel
theorem d5_4 : decode method_6_code 4 = .ok (.caload, 1) := by decide +kernel
theorem d5_5 : decode method_6_code 5 = .ok (.castore, 1) := by decide +kernel
theorem d5_6 : decode method_6_code 6 = .ok (.aload_n 0, 1) := by decide +kernel
theorem d5_7 : decode method_6_code 7 = .ok (.iconst 1, 1) := by decide +kernel
theorem d5_8 : decode method_6_code 8 = .ok (.aload_n 1, 1) := by decide +kernel
theorem d5_9 : decode method_6_code 9 = .ok (.iconst 1, 1) := by decide +kernel
theorem d5_10 : decode method_6_code 10 = .ok (.caload, 1) := by decide +kernel
theorem d5_11 : decode method_6_code 11 = .ok (.castore, 1) := by decide +kernel
theorem d5_12 : decode method_6_code 12 = .ok (.aload_n 0, 1) := by decide +kernel
theorem d5_13 : decode method_6_code 13 = .ok (.bipush 97, 2) := by decide +kernel
theorem d5_15 : decode method_6_code 15 = .ok (.aload_n 1, 1) := by decide +kernel
theorem d5_16 : decode method_6_code 16 = .ok (.bipush 97, 2) := by decide +kernel
theorem d5_18 : decode method_6_code 18 = .ok (.caload, 1) := by decide +kernel
theorem d5_19 : decode method_6_code 19 = .ok (.castore, 1) := by decide +kernel
theorem d5_20 : decode method_6_code 20 = .ok (.aload_n 0, 1) := by decide +kernel
theorem d5_21 : decode method_6_code 21 = .ok (.bipush 98, 2) := by decide +kernel
theorem d5_23 : decode method_6_code 23 = .ok (.aload_n 1, 1) := by decide +kernel
theorem d5_24 : decode method_6_code 24 = .ok (.bipush 98, 2) := by decide +kernel
theorem d5_26 : decode method_6_code 26 = .ok (.caload, 1) := by decide +kernel
theorem d5_27 : decode method_6_code 27 = .ok (.castore, 1) := by decide +kernel
theorem d5_28 : decode method_6_code 28 = .ok (.aload_n 0, 1) := by decide +kernel
theorem d5_29 : decode method_6_code 29 = .ok (.bipush 99, 2) := by decide +kernel
theorem d5_31 : decode method_6_code 31 = .ok (.aload_n 1, 1) := by decide +kernel
theorem d5_32 : decode method_6_code 32 = .ok (.bipush 99, 2) := by decide +kernel
theorem d5_34 : decode method_6_code 34 = .ok (.caload, 1) := by decide +kernel
theorem d5_35 : decode method_6_code 35 = .ok (.castore, 1) := by decide +kernel
theorem d5_36 : decode method_6_code 36 = .ok (.bipush 100, 2) := by decide +kernel
theorem d5_38 : decode method_6_code 38 = .ok (.aload_n 0, 1) := by decide +kernel
theorem d5_39 : decode method_6_code 39 = .ok (.arraylength, 1) := by decide +kernel
theorem d5_40 : decode method_6_code 40 = .ok (.if_icmp .ge 11, 3) := by decide +kernel
theorem d5_43 : decode method_6_code 43 = .ok (.aload_n 0, 1) := by decide +kernel
theorem d5_44 : decode method_6_code 44 = .ok (.bipush 100, 2) := by decide +kernel
theorem d5_46 : decode method_6_code 46 = .ok (.aload_n 1, 1) := by decide +kernel
theorem d5_47 : decode method_6_code 47 = .ok (.bipush 100, 2) := by decide +kernel
theorem d5_49 : decode method_6_code 49 = .ok (.caload, 1) := by decide +kernel
theorem d5_50 : decode method_6_code 50 = .ok (.castore, 1) := by decide +kernel
theorem d5_51 : decode method_6_code 51 = .ok (.bipush 101, 2) := by decide +kernel
theorem d5_53 : decode method_6_code 53 = .ok (.aload_n 0, 1) := by decide +kernel
theorem d5_54 : decode method_6_code 54 = .ok (.arraylength, 1) := by decide +kernel
theorem d5_55 : decode method_6_code 55 = .ok (.if_icmp .ge 11, 3) := by decide +kernel
theorem d5_58 : decode method_6_code 58 = .ok (.aload_n 0, 1) := by decide +kernel
theorem d5_59 : decode method_6_code 59 = .ok (.bipush 101, 2) := by decide +kernel
theorem d5_61 : decode method_6_code 61 = .ok (.aload_n 1, 1) := by decide +kernel
theorem d5_62 : decode method_6_code 62 = .ok (.bipush 101, 2) := by decide +kernel
theorem d5_64 : decode method_6_code 64 = .ok (.caload, 1) := by decide +kernel
theorem d5_65 : decode method_6_code 65 = .ok (.castore, 1) := by decide +kernel
theorem d5_66 : decode method_6_code 66 = .ok (.return_, 1) := by decide +kernel
theorem ef_ck100 (m : MethodId) (a1 : Addr) (a2 : Addr) : entryFrame m #[(.ref a1), (.ref a2)] 2 = mkF m 0 #[.val (.ref a1), .val (.ref a2)] [] := by first | (simp [entryFrame, mkF, argsToLocals, Value.category]; done) | rfl
def Qck100 (Z : State) (a1 : Addr) (k1 : ClassId) (a2 : Addr) (k2 : ClassId) (c0 : Int32) (c1 : Int32) (d0 : Int32) (d1 : Int32) (d2 : Int32) (d3 : Int32) (d4 : Int32) (d5 : Int32) (h0 : Heap) (n0 : Nat) (v : Option Value) (h : Heap) (L : List Loc) : Prop := v = none ∧ Fr n0 L ∧ Keep h0 h [a1] ∧ (Arv Z h a1 k1 .char (Int32.ofNat 100) (((own_t c0 c1 d0 d1 d2 d3 d4 d5).take 100).map Value.int) (.int (0 : Int32)))
theorem rmck100 (l : Launch) (Z : State) (a0 : Array Value) (hw : ∀ d ∈ tables_1, d.before a0 Z = true) (ws : List Jvm.Cond) (a1 : Addr) (k1 : ClassId) (a2 : Addr) (k2 : ClassId) (c0 : Int32) (c1 : Int32) (d0 : Int32) (d1 : Int32) (d2 : Int32) (d3 : Int32) (d4 : Int32) (d5 : Int32) (h0 : Heap) (n0 : Nat) (Z0 : n0 ≤ h0.size) (A1 : Arv Z h0 a1 k1 .char (Int32.ofNat 100) (List.replicate 100 (.int (0 : Int32))) (.int (0 : Int32))) (A2 : Arv Z h0 a2 k2 .char (Int32.ofNat 103) ((own_t c0 c1 d0 d1 d2 d3 d4 d5).map Value.int) (.int (0 : Int32))) (g1 : n0 ≤ a1) (ne : a2 ≠ a1) (hc0 : ¬ c0 < 0 ∧ ¬ (65535 : Int32) < c0) (hc1 : ¬ c1 < 0 ∧ ¬ (65535 : Int32) < c1) (hd0 : ¬ d0 < 0 ∧ ¬ (65535 : Int32) < d0) (hd1 : ¬ d1 < 0 ∧ ¬ (65535 : Int32) < d1) (hd2 : ¬ d2 < 0 ∧ ¬ (65535 : Int32) < d2) (hd3 : ¬ d3 < 0 ∧ ¬ (65535 : Int32) < d3) (hd4 : ¬ d4 < 0 ∧ ¬ (65535 : Int32) < d4) (hd5 : ¬ d5 < 0 ∧ ¬ (65535 : Int32) < d5) :
    MetFree l (⟨"com/example/tender/tender/mailbox/MailAbstractOfPinLaw", "copyKey", "([C[C)V"⟩ : MethodName) (head1 (Jvm.Cond.code (⟨"com/example/tender/tender/mailbox/MailAbstractOfPinLaw", "copyKey", "([C[C)V"⟩ : MethodName) method_6_code 2 none :: ws) ({ frames := 0, cells := 0, slots := 0, locals := 0 } : Room)) (fun a U => a = #[(.ref a1), (.ref a2)] ∧ Z.Warmed39 U.vm ∧ U.heap = h0) (fun _ _ _ _ _ => True) (fun _ U o U' => ∃ v L, o = .returned v ∧ Qck100 Z a1 k1 a2 k2 c0 c1 d0 d1 d2 d3 d4 d5 h0 n0 v U'.heap L ∧ FrameEnd U o U' L ({ frames := 0, cells := 0, slots := 0, locals := 0 } : Room).cells ({ frames := 0, cells := 0, slots := 0, locals := 0 } : Room).slots) := by
  refine MetFree.of_bodySF (plainFor_of_name pn_com_example_tender_tender_mailbox_MailAbstractOfPinLaw) hisR ?_
  intro p e s m args below meth c s₁ Bd hml0 hP hK
  obtain ⟨rfl, hZ, hH0⟩ := hP
  have hx := Bd.exec
  have hby := Bd.bytes
  have hml : c.maxLocals = 2 := hml0
  have hown : s.vm.findClass "com/example/tender/tender/mailbox/MailAbstractOfPinLaw" = some m.cls := findClass_of_methodNamed Bd.named
  have hnm := (name_of_methodNamed Bd.named Bd.method).1
  have X0 : Stand p l e ({ frames := 0, cells := 0, slots := 0, locals := 0 } : Room) s m #[(.ref a1), (.ref a2)] below meth c s₁ [] 0 0 := Stand.of_body Bd
  have e0 : s₁.heap = h0 := by rw [← hH0, Bd.state]; rfl
  have N0 := Fr.nil n0
  refine own_cast (ef_ck100 m a1 a2) ?_
  show own_Go p e below (fun o U' => ∃ v L, o = .returned v ∧ Qck100 Z a1 k1 a2 k2 c0 c1 d0 d1 d2 d3 d4 d5 h0 n0 v U'.heap L ∧ FrameEnd s o U' L ({ frames := 0, cells := 0, slots := 0, locals := 0 } : Room).cells ({ frames := 0, cells := 0, slots := 0, locals := 0 } : Room).slots) (s₁.setTop (mkF m 0 #[.val (.ref a1), .val (.ref a2)] []))
  refine own_aloadN X0 hx (hb hby d5_0) (q := 1) rfl rfl rfl ?_
  refine own_iconst X0 hx (hb hby d5_1) (q := 2) (z := (0 : Int32)) rfl rfl ?_
  refine own_aloadN X0 hx (hb hby d5_2) (q := 3) rfl rfl rfl ?_
  refine own_iconst X0 hx (hb hby d5_3) (q := 4) (z := (0 : Int32)) rfl rfl ?_
  obtain ⟨cl_1, Ar_1, q_1, S_1, M_1, H_1, G_1⟩ := (id A2)
  have ib_1 := own_inbs (n := 103) (i := 0) S_1 (by omega) (by omega)
  refine own_via (X0.caload hx (j := Int32.ofNat 0) (v := .int c0) (by rw [e0]; exact Ar_1.1) (State.isArrayOf_alike hZ.alike Ar_1.2.1) Ar_1.2.2 ib_1 (Has.at H_1 ib_1 (by first | rfl | (rw [own_clamp (by omega)]; rfl))) (g := (mkF m 4 #[.val (.ref a1), .val (.ref a2)] [(.int (0 : Int32)), (.ref a2), (.int (0 : Int32)), (.ref a1)])) rfl rfl (hb hby d5_4)) ?_
  show own_Go p e below _ (s₁.setTop (mkF m 5 #[.val (.ref a1), .val (.ref a2)] [(.int c0), (.int (0 : Int32)), (.ref a1)]))
  obtain ⟨cl_2, Ar_2, q_2, S_2, M_2, H_2, G_2⟩ := (id A1)
  obtain ⟨T_2, h_2, X_2, e_2, W_2, st_2⟩ := stC X0 hx hZ e0 Ar_2 (j := (0 : Int32)) (own_inbs (n := 100) (i := 0) S_2 (by decide) (by decide)) (g := (mkF m 5 #[.val (.ref a1), .val (.ref a2)] [(.int c0), (.int (0 : Int32)), (.ref a1)])) rfl rfl (hb hby d5_5)
  have V_2 : Arv Z h_2 a1 k1 .char (Int32.ofNat 100) ((List.replicate 100 (.int (0 : Int32))).set 0 (.int (nar .char c0))) (.int (0 : Int32)) := Arv.set Ar_2 q_2 S_2 M_2 H_2 G_2 (fits_nar_char _) W_2 0 rfl (by rw [List.length_replicate]; decide)
  have N_2 := Fr.snoc X_2 N0 g1
  refine own_via st_2 ?_
  show own_Go p e below _ (T_2.setTop (mkF m 6 #[.val (.ref a1), .val (.ref a2)] []))
  refine own_aloadN X_2 hx (hb hby d5_6) (q := 7) rfl rfl rfl ?_
  refine own_iconst X_2 hx (hb hby d5_7) (q := 8) (z := (1 : Int32)) rfl rfl ?_
  refine own_aloadN X_2 hx (hb hby d5_8) (q := 9) rfl rfl rfl ?_
  refine own_iconst X_2 hx (hb hby d5_9) (q := 10) (z := (1 : Int32)) rfl rfl ?_
  have K_4 : Keep h0 h_2 [a1] := Keep.wr (ws := [a1]) (own_keep_mono (Keep.refl h0 []) (by simp)) W_2 (Or.inl (List.mem_of_getElem? (i := 0) rfl))
  obtain ⟨cl_3, Ar_3, q_3, S_3, M_3, H_3, G_3⟩ := (id (A2.keep K_4 (ninS ne nin0)))
  have ib_3 := own_inbs (n := 103) (i := 1) S_3 (by omega) (by omega)
  refine own_via (X_2.caload hx (j := Int32.ofNat 1) (v := .int c1) (by rw [e_2]; exact Ar_3.1) (State.isArrayOf_alike hZ.alike Ar_3.2.1) Ar_3.2.2 ib_3 (Has.at H_3 ib_3 (by first | rfl | (rw [own_clamp (by omega)]; rfl))) (g := (mkF m 10 #[.val (.ref a1), .val (.ref a2)] [(.int (1 : Int32)), (.ref a2), (.int (1 : Int32)), (.ref a1)])) rfl rfl (hb hby d5_10)) ?_
  show own_Go p e below _ (T_2.setTop (mkF m 11 #[.val (.ref a1), .val (.ref a2)] [(.int c1), (.int (1 : Int32)), (.ref a1)]))
  obtain ⟨cl_5, Ar_5, q_5, S_5, M_5, H_5, G_5⟩ := (id V_2)
  obtain ⟨T_5, h_5, X_5, e_5, W_5, st_5⟩ := stC X_2 hx hZ e_2 Ar_5 (j := (1 : Int32)) (own_inbs (n := 100) (i := 1) S_5 (by decide) (by decide)) (g := (mkF m 11 #[.val (.ref a1), .val (.ref a2)] [(.int c1), (.int (1 : Int32)), (.ref a1)])) rfl rfl (hb hby d5_11)
  have V_5 : Arv Z h_5 a1 k1 .char (Int32.ofNat 100) (((List.replicate 100 (.int (0 : Int32))).set 0 (.int (nar .char c0))).set 1 (.int (nar .char c1))) (.int (0 : Int32)) := Arv.set Ar_5 q_5 S_5 M_5 H_5 G_5 (fits_nar_char _) W_5 1 rfl (by rw [List.length_set, List.length_replicate]; decide)
  have N_5 := Fr.snoc X_5 N_2 g1
  refine own_via st_5 ?_
  show own_Go p e below _ (T_5.setTop (mkF m 12 #[.val (.ref a1), .val (.ref a2)] []))
  refine own_aloadN X_5 hx (hb hby d5_12) (q := 13) rfl rfl rfl ?_
  refine own_bipush X_5 hx (hb hby d5_13) (q := 15) (z := (97 : Int32)) rfl rfl ?_
  refine own_aloadN X_5 hx (hb hby d5_15) (q := 16) rfl rfl rfl ?_
  refine own_bipush X_5 hx (hb hby d5_16) (q := 18) (z := (97 : Int32)) rfl rfl ?_
  have K_7 : Keep h0 h_5 [a1] := Keep.wr (ws := [a1]) K_4 W_5 (Or.inl (List.mem_of_getElem? (i := 0) rfl))
  obtain ⟨cl_6, Ar_6, q_6, S_6, M_6, H_6, G_6⟩ := (id (A2.keep K_7 (ninS ne nin0)))
  have ib_6 := own_inbs (n := 103) (i := 97) S_6 (by omega) (by omega)
  refine own_via (X_5.caload hx (j := Int32.ofNat 97) (v := .int d0) (by rw [e_5]; exact Ar_6.1) (State.isArrayOf_alike hZ.alike Ar_6.2.1) Ar_6.2.2 ib_6 (Has.at H_6 ib_6 (by first | rfl | (rw [own_clamp (by omega)]; rfl))) (g := (mkF m 18 #[.val (.ref a1), .val (.ref a2)] [(.int (97 : Int32)), (.ref a2), (.int (97 : Int32)), (.ref a1)])) rfl rfl (hb hby d5_18)) ?_
  show own_Go p e below _ (T_5.setTop (mkF m 19 #[.val (.ref a1), .val (.ref a2)] [(.int d0), (.int (97 : Int32)), (.ref a1)]))
  obtain ⟨cl_8, Ar_8, q_8, S_8, M_8, H_8, G_8⟩ := (id V_5)
  obtain ⟨T_8, h_8, X_8, e_8, W_8, st_8⟩ := stC X_5 hx hZ e_5 Ar_8 (j := (97 : Int32)) (own_inbs (n := 100) (i := 97) S_8 (by decide) (by decide)) (g := (mkF m 19 #[.val (.ref a1), .val (.ref a2)] [(.int d0), (.int (97 : Int32)), (.ref a1)])) rfl rfl (hb hby d5_19)
  have V_8 : Arv Z h_8 a1 k1 .char (Int32.ofNat 100) ((((List.replicate 100 (.int (0 : Int32))).set 0 (.int (nar .char c0))).set 1 (.int (nar .char c1))).set 97 (.int (nar .char d0))) (.int (0 : Int32)) := Arv.set Ar_8 q_8 S_8 M_8 H_8 G_8 (fits_nar_char _) W_8 97 rfl (by rw [List.length_set, List.length_set, List.length_replicate]; decide)
  have N_8 := Fr.snoc X_8 N_5 g1
  refine own_via st_8 ?_
  show own_Go p e below _ (T_8.setTop (mkF m 20 #[.val (.ref a1), .val (.ref a2)] []))
  refine own_aloadN X_8 hx (hb hby d5_20) (q := 21) rfl rfl rfl ?_
  refine own_bipush X_8 hx (hb hby d5_21) (q := 23) (z := (98 : Int32)) rfl rfl ?_
  refine own_aloadN X_8 hx (hb hby d5_23) (q := 24) rfl rfl rfl ?_
  refine own_bipush X_8 hx (hb hby d5_24) (q := 26) (z := (98 : Int32)) rfl rfl ?_
  have K_10 : Keep h0 h_8 [a1] := Keep.wr (ws := [a1]) K_7 W_8 (Or.inl (List.mem_of_getElem? (i := 0) rfl))
  obtain ⟨cl_9, Ar_9, q_9, S_9, M_9, H_9, G_9⟩ := (id (A2.keep K_10 (ninS ne nin0)))
  have ib_9 := own_inbs (n := 103) (i := 98) S_9 (by omega) (by omega)
  refine own_via (X_8.caload hx (j := Int32.ofNat 98) (v := .int d1) (by rw [e_8]; exact Ar_9.1) (State.isArrayOf_alike hZ.alike Ar_9.2.1) Ar_9.2.2 ib_9 (Has.at H_9 ib_9 (by first | rfl | (rw [own_clamp (by omega)]; rfl))) (g := (mkF m 26 #[.val (.ref a1), .val (.ref a2)] [(.int (98 : Int32)), (.ref a2), (.int (98 : Int32)), (.ref a1)])) rfl rfl (hb hby d5_26)) ?_
  show own_Go p e below _ (T_8.setTop (mkF m 27 #[.val (.ref a1), .val (.ref a2)] [(.int d1), (.int (98 : Int32)), (.ref a1)]))
  obtain ⟨cl_11, Ar_11, q_11, S_11, M_11, H_11, G_11⟩ := (id V_8)
  obtain ⟨T_11, h_11, X_11, e_11, W_11, st_11⟩ := stC X_8 hx hZ e_8 Ar_11 (j := (98 : Int32)) (own_inbs (n := 100) (i := 98) S_11 (by decide) (by decide)) (g := (mkF m 27 #[.val (.ref a1), .val (.ref a2)] [(.int d1), (.int (98 : Int32)), (.ref a1)])) rfl rfl (hb hby d5_27)
  have V_11 : Arv Z h_11 a1 k1 .char (Int32.ofNat 100) (((((List.replicate 100 (.int (0 : Int32))).set 0 (.int (nar .char c0))).set 1 (.int (nar .char c1))).set 97 (.int (nar .char d0))).set 98 (.int (nar .char d1))) (.int (0 : Int32)) := Arv.set Ar_11 q_11 S_11 M_11 H_11 G_11 (fits_nar_char _) W_11 98 rfl (by rw [List.length_set, List.length_set, List.length_set, List.length_replicate]; decide)
  have N_11 := Fr.snoc X_11 N_8 g1
  refine own_via st_11 ?_
  show own_Go p e below _ (T_11.setTop (mkF m 28 #[.val (.ref a1), .val (.ref a2)] []))
  refine own_aloadN X_11 hx (hb hby d5_28) (q := 29) rfl rfl rfl ?_
  refine own_bipush X_11 hx (hb hby d5_29) (q := 31) (z := (99 : Int32)) rfl rfl ?_
  refine own_aloadN X_11 hx (hb hby d5_31) (q := 32) rfl rfl rfl ?_
  refine own_bipush X_11 hx (hb hby d5_32) (q := 34) (z := (99 : Int32)) rfl rfl ?_
  have K_13 : Keep h0 h_11 [a1] := Keep.wr (ws := [a1]) K_10 W_11 (Or.inl (List.mem_of_getElem? (i := 0) rfl))
  obtain ⟨cl_12, Ar_12, q_12, S_12, M_12, H_12, G_12⟩ := (id (A2.keep K_13 (ninS ne nin0)))
  have ib_12 := own_inbs (n := 103) (i := 99) S_12 (by omega) (by omega)
  refine own_via (X_11.caload hx (j := Int32.ofNat 99) (v := .int d2) (by rw [e_11]; exact Ar_12.1) (State.isArrayOf_alike hZ.alike Ar_12.2.1) Ar_12.2.2 ib_12 (Has.at H_12 ib_12 (by first | rfl | (rw [own_clamp (by omega)]; rfl))) (g := (mkF m 34 #[.val (.ref a1), .val (.ref a2)] [(.int (99 : Int32)), (.ref a2), (.int (99 : Int32)), (.ref a1)])) rfl rfl (hb hby d5_34)) ?_
  show own_Go p e below _ (T_11.setTop (mkF m 35 #[.val (.ref a1), .val (.ref a2)] [(.int d2), (.int (99 : Int32)), (.ref a1)]))
  obtain ⟨cl_14, Ar_14, q_14, S_14, M_14, H_14, G_14⟩ := (id V_11)
  obtain ⟨T_14, h_14, X_14, e_14, W_14, st_14⟩ := stC X_11 hx hZ e_11 Ar_14 (j := (99 : Int32)) (own_inbs (n := 100) (i := 99) S_14 (by decide) (by decide)) (g := (mkF m 35 #[.val (.ref a1), .val (.ref a2)] [(.int d2), (.int (99 : Int32)), (.ref a1)])) rfl rfl (hb hby d5_35)
  have V_14 : Arv Z h_14 a1 k1 .char (Int32.ofNat 100) ((((((List.replicate 100 (.int (0 : Int32))).set 0 (.int (nar .char c0))).set 1 (.int (nar .char c1))).set 97 (.int (nar .char d0))).set 98 (.int (nar .char d1))).set 99 (.int (nar .char d2))) (.int (0 : Int32)) := Arv.set Ar_14 q_14 S_14 M_14 H_14 G_14 (fits_nar_char _) W_14 99 rfl (by rw [List.length_set, List.length_set, List.length_set, List.length_set, List.length_replicate]; decide)
  have N_14 := Fr.snoc X_14 N_11 g1
  refine own_via st_14 ?_
  show own_Go p e below _ (T_14.setTop (mkF m 36 #[.val (.ref a1), .val (.ref a2)] []))
  have V_15 : Arv Z h_14 a1 k1 .char (Int32.ofNat 100) (((own_t c0 c1 d0 d1 d2 d3 d4 d5).take 100).map Value.int) (.int (0 : Int32)) := by have q := V_14; rw [own_nar16 hc0, own_nar16 hc1, own_nar16 hd0, own_nar16 hd1, own_nar16 hd2] at q; first | (rw [own_ck100 c0 c1 d0 d1 d2 d3 d4 d5] at q; exact q) | exact q
  refine own_bipush X_14 hx (hb hby d5_36) (q := 38) (z := (100 : Int32)) rfl rfl ?_
  refine own_aloadN X_14 hx (hb hby d5_38) (q := 39) rfl rfl rfl ?_
  obtain ⟨cl_16, Ar_16, q_16, S_16, M_16, H_16, G_16⟩ := (id V_15)
  refine own_via (X_14.arraylength hx (by rw [e_14]; exact Ar_16.1) (State.isArrayOf_alike hZ.alike Ar_16.2.1) (g := (mkF m 39 #[.val (.ref a1), .val (.ref a2)] [(.ref a1), (.int (100 : Int32))])) rfl rfl (hb hby d5_39)) ?_
  rw [len_of S_16 M_16]
  show own_Go p e below _ (T_14.setTop (mkF m 40 #[.val (.ref a1), .val (.ref a2)] [(.int (Int32.ofNat 100)), (.int (100 : Int32))]))
  refine own_via (fun _ => XS.icmpYes X_14.here hx rfl (pc0 := 40) (pc' := 51) rfl (hb hby d5_40) rfl (flt ((by decide) : ¬ ((100 : Int32) < (Int32.ofNat 100)))).2.1 (by decide) (by decide)) ?_
  show own_Go p e below _ (T_14.setTop (mkF m 51 #[.val (.ref a1), .val (.ref a2)] []))
  refine own_bipush X_14 hx (hb hby d5_51) (q := 53) (z := (101 : Int32)) rfl rfl ?_
  refine own_aloadN X_14 hx (hb hby d5_53) (q := 54) rfl rfl rfl ?_
  obtain ⟨cl_17, Ar_17, q_17, S_17, M_17, H_17, G_17⟩ := (id V_15)
  refine own_via (X_14.arraylength hx (by rw [e_14]; exact Ar_17.1) (State.isArrayOf_alike hZ.alike Ar_17.2.1) (g := (mkF m 54 #[.val (.ref a1), .val (.ref a2)] [(.ref a1), (.int (101 : Int32))])) rfl rfl (hb hby d5_54)) ?_
  rw [len_of S_17 M_17]
  show own_Go p e below _ (T_14.setTop (mkF m 55 #[.val (.ref a1), .val (.ref a2)] [(.int (Int32.ofNat 100)), (.int (101 : Int32))]))
  refine own_via (fun _ => XS.icmpYes X_14.here hx rfl (pc0 := 55) (pc' := 66) rfl (hb hby d5_55) rfl (flt ((by decide) : ¬ ((101 : Int32) < (Int32.ofNat 100)))).2.1 (by decide) (by decide)) ?_
  show own_Go p e below _ (T_14.setTop (mkF m 66 #[.val (.ref a1), .val (.ref a2)] []))
  have K_18 : Keep h0 h_14 [a1] := Keep.wr (ws := [a1]) K_13 W_14 (Or.inl (List.mem_of_getElem? (i := 0) rfl))
  exact own_ret0 X_14 Bd.notSynchronized hx Bd.returns (hb hby d5_66) (by decide) (by decide) (by rw [e_14]; exact ⟨rfl, N_14, K_18, V_15⟩)
theorem ef_ck101 (m : MethodId) (a1 : Addr) (a2 : Addr) : entryFrame m #[(.ref a1), (.ref a2)] 2 = mkF m 0 #[.val (.ref a1), .val (.ref a2)] [] := by first | (simp [entryFrame, mkF, argsToLocals, Value.category]; done) | rfl
def Qck101 (Z : State) (a1 : Addr) (k1 : ClassId) (a2 : Addr) (k2 : ClassId) (c0 : Int32) (c1 : Int32) (d0 : Int32) (d1 : Int32) (d2 : Int32) (d3 : Int32) (d4 : Int32) (d5 : Int32) (h0 : Heap) (n0 : Nat) (v : Option Value) (h : Heap) (L : List Loc) : Prop := v = none ∧ Fr n0 L ∧ Keep h0 h [a1] ∧ (Arv Z h a1 k1 .char (Int32.ofNat 101) (((own_t c0 c1 d0 d1 d2 d3 d4 d5).take 101).map Value.int) (.int (0 : Int32)))
theorem rmck101 (l : Launch) (Z : State) (a0 : Array Value) (hw : ∀ d ∈ tables_1, d.before a0 Z = true) (ws : List Jvm.Cond) (a1 : Addr) (k1 : ClassId) (a2 : Addr) (k2 : ClassId) (c0 : Int32) (c1 : Int32) (d0 : Int32) (d1 : Int32) (d2 : Int32) (d3 : Int32) (d4 : Int32) (d5 : Int32) (h0 : Heap) (n0 : Nat) (Z0 : n0 ≤ h0.size) (A1 : Arv Z h0 a1 k1 .char (Int32.ofNat 101) (List.replicate 101 (.int (0 : Int32))) (.int (0 : Int32))) (A2 : Arv Z h0 a2 k2 .char (Int32.ofNat 103) ((own_t c0 c1 d0 d1 d2 d3 d4 d5).map Value.int) (.int (0 : Int32))) (g1 : n0 ≤ a1) (ne : a2 ≠ a1) (hc0 : ¬ c0 < 0 ∧ ¬ (65535 : Int32) < c0) (hc1 : ¬ c1 < 0 ∧ ¬ (65535 : Int32) < c1) (hd0 : ¬ d0 < 0 ∧ ¬ (65535 : Int32) < d0) (hd1 : ¬ d1 < 0 ∧ ¬ (65535 : Int32) < d1) (hd2 : ¬ d2 < 0 ∧ ¬ (65535 : Int32) < d2) (hd3 : ¬ d3 < 0 ∧ ¬ (65535 : Int32) < d3) (hd4 : ¬ d4 < 0 ∧ ¬ (65535 : Int32) < d4) (hd5 : ¬ d5 < 0 ∧ ¬ (65535 : Int32) < d5) :
    MetFree l (⟨"com/example/tender/tender/mailbox/MailAbstractOfPinLaw", "copyKey", "([C[C)V"⟩ : MethodName) (head1 (Jvm.Cond.code (⟨"com/example/tender/tender/mailbox/MailAbstractOfPinLaw", "copyKey", "([C[C)V"⟩ : MethodName) method_6_code 2 none :: ws) ({ frames := 0, cells := 0, slots := 0, locals := 0 } : Room)) (fun a U => a = #[(.ref a1), (.ref a2)] ∧ Z.Warmed39 U.vm ∧ U.heap = h0) (fun _ _ _ _ _ => True) (fun _ U o U' => ∃ v L, o = .returned v ∧ Qck101 Z a1 k1 a2 k2 c0 c1 d0 d1 d2 d3 d4 d5 h0 n0 v U'.heap L ∧ FrameEnd U o U' L ({ frames := 0, cells := 0, slots := 0, locals := 0 } : Room).cells ({ frames := 0, cells := 0, slots := 0, locals := 0 } : Room).slots) := by
  refine MetFree.of_bodySF (plainFor_of_name pn_com_example_tender_tender_mailbox_MailAbstractOfPinLaw) hisR ?_
  intro p e s m args below meth c s₁ Bd hml0 hP hK
  obtain ⟨rfl, hZ, hH0⟩ := hP
  have hx := Bd.exec
  have hby := Bd.bytes
  have hml : c.maxLocals = 2 := hml0
  have hown : s.vm.findClass "com/example/tender/tender/mailbox/MailAbstractOfPinLaw" = some m.cls := findClass_of_methodNamed Bd.named
  have hnm := (name_of_methodNamed Bd.named Bd.method).1
  have X0 : Stand p l e ({ frames := 0, cells := 0, slots := 0, locals := 0 } : Room) s m #[(.ref a1), (.ref a2)] below meth c s₁ [] 0 0 := Stand.of_body Bd
  have e0 : s₁.heap = h0 := by rw [← hH0, Bd.state]; rfl
  have N0 := Fr.nil n0
  refine own_cast (ef_ck101 m a1 a2) ?_
  show own_Go p e below (fun o U' => ∃ v L, o = .returned v ∧ Qck101 Z a1 k1 a2 k2 c0 c1 d0 d1 d2 d3 d4 d5 h0 n0 v U'.heap L ∧ FrameEnd s o U' L ({ frames := 0, cells := 0, slots := 0, locals := 0 } : Room).cells ({ frames := 0, cells := 0, slots := 0, locals := 0 } : Room).slots) (s₁.setTop (mkF m 0 #[.val (.ref a1), .val (.ref a2)] []))
  refine own_aloadN X0 hx (hb hby d5_0) (q := 1) rfl rfl rfl ?_
  refine own_iconst X0 hx (hb hby d5_1) (q := 2) (z := (0 : Int32)) rfl rfl ?_
  refine own_aloadN X0 hx (hb hby d5_2) (q := 3) rfl rfl rfl ?_
  refine own_iconst X0 hx (hb hby d5_3) (q := 4) (z := (0 : Int32)) rfl rfl ?_
  obtain ⟨cl_1, Ar_1, q_1, S_1, M_1, H_1, G_1⟩ := (id A2)
  have ib_1 := own_inbs (n := 103) (i := 0) S_1 (by omega) (by omega)
  refine own_via (X0.caload hx (j := Int32.ofNat 0) (v := .int c0) (by rw [e0]; exact Ar_1.1) (State.isArrayOf_alike hZ.alike Ar_1.2.1) Ar_1.2.2 ib_1 (Has.at H_1 ib_1 (by first | rfl | (rw [own_clamp (by omega)]; rfl))) (g := (mkF m 4 #[.val (.ref a1), .val (.ref a2)] [(.int (0 : Int32)), (.ref a2), (.int (0 : Int32)), (.ref a1)])) rfl rfl (hb hby d5_4)) ?_
  show own_Go p e below _ (s₁.setTop (mkF m 5 #[.val (.ref a1), .val (.ref a2)] [(.int c0), (.int (0 : Int32)), (.ref a1)]))
  obtain ⟨cl_2, Ar_2, q_2, S_2, M_2, H_2, G_2⟩ := (id A1)
  obtain ⟨T_2, h_2, X_2, e_2, W_2, st_2⟩ := stC X0 hx hZ e0 Ar_2 (j := (0 : Int32)) (own_inbs (n := 101) (i := 0) S_2 (by decide) (by decide)) (g := (mkF m 5 #[.val (.ref a1), .val (.ref a2)] [(.int c0), (.int (0 : Int32)), (.ref a1)])) rfl rfl (hb hby d5_5)
  have V_2 : Arv Z h_2 a1 k1 .char (Int32.ofNat 101) ((List.replicate 101 (.int (0 : Int32))).set 0 (.int (nar .char c0))) (.int (0 : Int32)) := Arv.set Ar_2 q_2 S_2 M_2 H_2 G_2 (fits_nar_char _) W_2 0 rfl (by rw [List.length_replicate]; decide)
  have N_2 := Fr.snoc X_2 N0 g1
  refine own_via st_2 ?_
  show own_Go p e below _ (T_2.setTop (mkF m 6 #[.val (.ref a1), .val (.ref a2)] []))
  refine own_aloadN X_2 hx (hb hby d5_6) (q := 7) rfl rfl rfl ?_
  refine own_iconst X_2 hx (hb hby d5_7) (q := 8) (z := (1 : Int32)) rfl rfl ?_
  refine own_aloadN X_2 hx (hb hby d5_8) (q := 9) rfl rfl rfl ?_
  refine own_iconst X_2 hx (hb hby d5_9) (q := 10) (z := (1 : Int32)) rfl rfl ?_
  have K_4 : Keep h0 h_2 [a1] := Keep.wr (ws := [a1]) (own_keep_mono (Keep.refl h0 []) (by simp)) W_2 (Or.inl (List.mem_of_getElem? (i := 0) rfl))
  obtain ⟨cl_3, Ar_3, q_3, S_3, M_3, H_3, G_3⟩ := (id (A2.keep K_4 (ninS ne nin0)))
  have ib_3 := own_inbs (n := 103) (i := 1) S_3 (by omega) (by omega)
  refine own_via (X_2.caload hx (j := Int32.ofNat 1) (v := .int c1) (by rw [e_2]; exact Ar_3.1) (State.isArrayOf_alike hZ.alike Ar_3.2.1) Ar_3.2.2 ib_3 (Has.at H_3 ib_3 (by first | rfl | (rw [own_clamp (by omega)]; rfl))) (g := (mkF m 10 #[.val (.ref a1), .val (.ref a2)] [(.int (1 : Int32)), (.ref a2), (.int (1 : Int32)), (.ref a1)])) rfl rfl (hb hby d5_10)) ?_
  show own_Go p e below _ (T_2.setTop (mkF m 11 #[.val (.ref a1), .val (.ref a2)] [(.int c1), (.int (1 : Int32)), (.ref a1)]))
  obtain ⟨cl_5, Ar_5, q_5, S_5, M_5, H_5, G_5⟩ := (id V_2)
  obtain ⟨T_5, h_5, X_5, e_5, W_5, st_5⟩ := stC X_2 hx hZ e_2 Ar_5 (j := (1 : Int32)) (own_inbs (n := 101) (i := 1) S_5 (by decide) (by decide)) (g := (mkF m 11 #[.val (.ref a1), .val (.ref a2)] [(.int c1), (.int (1 : Int32)), (.ref a1)])) rfl rfl (hb hby d5_11)
  have V_5 : Arv Z h_5 a1 k1 .char (Int32.ofNat 101) (((List.replicate 101 (.int (0 : Int32))).set 0 (.int (nar .char c0))).set 1 (.int (nar .char c1))) (.int (0 : Int32)) := Arv.set Ar_5 q_5 S_5 M_5 H_5 G_5 (fits_nar_char _) W_5 1 rfl (by rw [List.length_set, List.length_replicate]; decide)
  have N_5 := Fr.snoc X_5 N_2 g1
  refine own_via st_5 ?_
  show own_Go p e below _ (T_5.setTop (mkF m 12 #[.val (.ref a1), .val (.ref a2)] []))
  refine own_aloadN X_5 hx (hb hby d5_12) (q := 13) rfl rfl rfl ?_
  refine own_bipush X_5 hx (hb hby d5_13) (q := 15) (z := (97 : Int32)) rfl rfl ?_
  refine own_aloadN X_5 hx (hb hby d5_15) (q := 16) rfl rfl rfl ?_
  refine own_bipush X_5 hx (hb hby d5_16) (q := 18) (z := (97 : Int32)) rfl rfl ?_
  have K_7 : Keep h0 h_5 [a1] := Keep.wr (ws := [a1]) K_4 W_5 (Or.inl (List.mem_of_getElem? (i := 0) rfl))
  obtain ⟨cl_6, Ar_6, q_6, S_6, M_6, H_6, G_6⟩ := (id (A2.keep K_7 (ninS ne nin0)))
  have ib_6 := own_inbs (n := 103) (i := 97) S_6 (by omega) (by omega)
  refine own_via (X_5.caload hx (j := Int32.ofNat 97) (v := .int d0) (by rw [e_5]; exact Ar_6.1) (State.isArrayOf_alike hZ.alike Ar_6.2.1) Ar_6.2.2 ib_6 (Has.at H_6 ib_6 (by first | rfl | (rw [own_clamp (by omega)]; rfl))) (g := (mkF m 18 #[.val (.ref a1), .val (.ref a2)] [(.int (97 : Int32)), (.ref a2), (.int (97 : Int32)), (.ref a1)])) rfl rfl (hb hby d5_18)) ?_
  show own_Go p e below _ (T_5.setTop (mkF m 19 #[.val (.ref a1), .val (.ref a2)] [(.int d0), (.int (97 : Int32)), (.ref a1)]))
  obtain ⟨cl_8, Ar_8, q_8, S_8, M_8, H_8, G_8⟩ := (id V_5)
  obtain ⟨T_8, h_8, X_8, e_8, W_8, st_8⟩ := stC X_5 hx hZ e_5 Ar_8 (j := (97 : Int32)) (own_inbs (n := 101) (i := 97) S_8 (by decide) (by decide)) (g := (mkF m 19 #[.val (.ref a1), .val (.ref a2)] [(.int d0), (.int (97 : Int32)), (.ref a1)])) rfl rfl (hb hby d5_19)
  have V_8 : Arv Z h_8 a1 k1 .char (Int32.ofNat 101) ((((List.replicate 101 (.int (0 : Int32))).set 0 (.int (nar .char c0))).set 1 (.int (nar .char c1))).set 97 (.int (nar .char d0))) (.int (0 : Int32)) := Arv.set Ar_8 q_8 S_8 M_8 H_8 G_8 (fits_nar_char _) W_8 97 rfl (by rw [List.length_set, List.length_set, List.length_replicate]; decide)
  have N_8 := Fr.snoc X_8 N_5 g1
  refine own_via st_8 ?_
  show own_Go p e below _ (T_8.setTop (mkF m 20 #[.val (.ref a1), .val (.ref a2)] []))
  refine own_aloadN X_8 hx (hb hby d5_20) (q := 21) rfl rfl rfl ?_
  refine own_bipush X_8 hx (hb hby d5_21) (q := 23) (z := (98 : Int32)) rfl rfl ?_
  refine own_aloadN X_8 hx (hb hby d5_23) (q := 24) rfl rfl rfl ?_
  refine own_bipush X_8 hx (hb hby d5_24) (q := 26) (z := (98 : Int32)) rfl rfl ?_
  have K_10 : Keep h0 h_8 [a1] := Keep.wr (ws := [a1]) K_7 W_8 (Or.inl (List.mem_of_getElem? (i := 0) rfl))
  obtain ⟨cl_9, Ar_9, q_9, S_9, M_9, H_9, G_9⟩ := (id (A2.keep K_10 (ninS ne nin0)))
  have ib_9 := own_inbs (n := 103) (i := 98) S_9 (by omega) (by omega)
  refine own_via (X_8.caload hx (j := Int32.ofNat 98) (v := .int d1) (by rw [e_8]; exact Ar_9.1) (State.isArrayOf_alike hZ.alike Ar_9.2.1) Ar_9.2.2 ib_9 (Has.at H_9 ib_9 (by first | rfl | (rw [own_clamp (by omega)]; rfl))) (g := (mkF m 26 #[.val (.ref a1), .val (.ref a2)] [(.int (98 : Int32)), (.ref a2), (.int (98 : Int32)), (.ref a1)])) rfl rfl (hb hby d5_26)) ?_
  show own_Go p e below _ (T_8.setTop (mkF m 27 #[.val (.ref a1), .val (.ref a2)] [(.int d1), (.int (98 : Int32)), (.ref a1)]))
  obtain ⟨cl_11, Ar_11, q_11, S_11, M_11, H_11, G_11⟩ := (id V_8)
  obtain ⟨T_11, h_11, X_11, e_11, W_11, st_11⟩ := stC X_8 hx hZ e_8 Ar_11 (j := (98 : Int32)) (own_inbs (n := 101) (i := 98) S_11 (by decide) (by decide)) (g := (mkF m 27 #[.val (.ref a1), .val (.ref a2)] [(.int d1), (.int (98 : Int32)), (.ref a1)])) rfl rfl (hb hby d5_27)
  have V_11 : Arv Z h_11 a1 k1 .char (Int32.ofNat 101) (((((List.replicate 101 (.int (0 : Int32))).set 0 (.int (nar .char c0))).set 1 (.int (nar .char c1))).set 97 (.int (nar .char d0))).set 98 (.int (nar .char d1))) (.int (0 : Int32)) := Arv.set Ar_11 q_11 S_11 M_11 H_11 G_11 (fits_nar_char _) W_11 98 rfl (by rw [List.length_set, List.length_set, List.length_set, List.length_replicate]; decide)
  have N_11 := Fr.snoc X_11 N_8 g1
  refine own_via st_11 ?_
  show own_Go p e below _ (T_11.setTop (mkF m 28 #[.val (.ref a1), .val (.ref a2)] []))
  refine own_aloadN X_11 hx (hb hby d5_28) (q := 29) rfl rfl rfl ?_
  refine own_bipush X_11 hx (hb hby d5_29) (q := 31) (z := (99 : Int32)) rfl rfl ?_
  refine own_aloadN X_11 hx (hb hby d5_31) (q := 32) rfl rfl rfl ?_
  refine own_bipush X_11 hx (hb hby d5_32) (q := 34) (z := (99 : Int32)) rfl rfl ?_
  have K_13 : Keep h0 h_11 [a1] := Keep.wr (ws := [a1]) K_10 W_11 (Or.inl (List.mem_of_getElem? (i := 0) rfl))
  obtain ⟨cl_12, Ar_12, q_12, S_12, M_12, H_12, G_12⟩ := (id (A2.keep K_13 (ninS ne nin0)))
  have ib_12 := own_inbs (n := 103) (i := 99) S_12 (by omega) (by omega)
  refine own_via (X_11.caload hx (j := Int32.ofNat 99) (v := .int d2) (by rw [e_11]; exact Ar_12.1) (State.isArrayOf_alike hZ.alike Ar_12.2.1) Ar_12.2.2 ib_12 (Has.at H_12 ib_12 (by first | rfl | (rw [own_clamp (by omega)]; rfl))) (g := (mkF m 34 #[.val (.ref a1), .val (.ref a2)] [(.int (99 : Int32)), (.ref a2), (.int (99 : Int32)), (.ref a1)])) rfl rfl (hb hby d5_34)) ?_
  show own_Go p e below _ (T_11.setTop (mkF m 35 #[.val (.ref a1), .val (.ref a2)] [(.int d2), (.int (99 : Int32)), (.ref a1)]))
  obtain ⟨cl_14, Ar_14, q_14, S_14, M_14, H_14, G_14⟩ := (id V_11)
  obtain ⟨T_14, h_14, X_14, e_14, W_14, st_14⟩ := stC X_11 hx hZ e_11 Ar_14 (j := (99 : Int32)) (own_inbs (n := 101) (i := 99) S_14 (by decide) (by decide)) (g := (mkF m 35 #[.val (.ref a1), .val (.ref a2)] [(.int d2), (.int (99 : Int32)), (.ref a1)])) rfl rfl (hb hby d5_35)
  have V_14 : Arv Z h_14 a1 k1 .char (Int32.ofNat 101) ((((((List.replicate 101 (.int (0 : Int32))).set 0 (.int (nar .char c0))).set 1 (.int (nar .char c1))).set 97 (.int (nar .char d0))).set 98 (.int (nar .char d1))).set 99 (.int (nar .char d2))) (.int (0 : Int32)) := Arv.set Ar_14 q_14 S_14 M_14 H_14 G_14 (fits_nar_char _) W_14 99 rfl (by rw [List.length_set, List.length_set, List.length_set, List.length_set, List.length_replicate]; decide)
  have N_14 := Fr.snoc X_14 N_11 g1
  refine own_via st_14 ?_
  show own_Go p e below _ (T_14.setTop (mkF m 36 #[.val (.ref a1), .val (.ref a2)] []))
  refine own_bipush X_14 hx (hb hby d5_36) (q := 38) (z := (100 : Int32)) rfl rfl ?_
  refine own_aloadN X_14 hx (hb hby d5_38) (q := 39) rfl rfl rfl ?_
  obtain ⟨cl_15, Ar_15, q_15, S_15, M_15, H_15, G_15⟩ := (id V_14)
  refine own_via (X_14.arraylength hx (by rw [e_14]; exact Ar_15.1) (State.isArrayOf_alike hZ.alike Ar_15.2.1) (g := (mkF m 39 #[.val (.ref a1), .val (.ref a2)] [(.ref a1), (.int (100 : Int32))])) rfl rfl (hb hby d5_39)) ?_
  rw [len_of S_15 M_15]
  show own_Go p e below _ (T_14.setTop (mkF m 40 #[.val (.ref a1), .val (.ref a2)] [(.int (Int32.ofNat 101)), (.int (100 : Int32))]))
  refine own_via (fun _ => XS.icmpNo X_14.here hx rfl (hb hby d5_40) rfl (tlt ((by decide) : (100 : Int32) < (Int32.ofNat 101))).2.1) ?_
  show own_Go p e below _ (T_14.setTop (mkF m 43 #[.val (.ref a1), .val (.ref a2)] []))
  refine own_aloadN X_14 hx (hb hby d5_43) (q := 44) rfl rfl rfl ?_
  refine own_bipush X_14 hx (hb hby d5_44) (q := 46) (z := (100 : Int32)) rfl rfl ?_
  refine own_aloadN X_14 hx (hb hby d5_46) (q := 47) rfl rfl rfl ?_
  refine own_bipush X_14 hx (hb hby d5_47) (q := 49) (z := (100 : Int32)) rfl rfl ?_
  have K_17 : Keep h0 h_14 [a1] := Keep.wr (ws := [a1]) K_13 W_14 (Or.inl (List.mem_of_getElem? (i := 0) rfl))
  obtain ⟨cl_16, Ar_16, q_16, S_16, M_16, H_16, G_16⟩ := (id (A2.keep K_17 (ninS ne nin0)))
  have ib_16 := own_inbs (n := 103) (i := 100) S_16 (by omega) (by omega)
  refine own_via (X_14.caload hx (j := Int32.ofNat 100) (v := .int d3) (by rw [e_14]; exact Ar_16.1) (State.isArrayOf_alike hZ.alike Ar_16.2.1) Ar_16.2.2 ib_16 (Has.at H_16 ib_16 (by first | rfl | (rw [own_clamp (by omega)]; rfl))) (g := (mkF m 49 #[.val (.ref a1), .val (.ref a2)] [(.int (100 : Int32)), (.ref a2), (.int (100 : Int32)), (.ref a1)])) rfl rfl (hb hby d5_49)) ?_
  show own_Go p e below _ (T_14.setTop (mkF m 50 #[.val (.ref a1), .val (.ref a2)] [(.int d3), (.int (100 : Int32)), (.ref a1)]))
  obtain ⟨cl_18, Ar_18, q_18, S_18, M_18, H_18, G_18⟩ := (id V_14)
  obtain ⟨T_18, h_18, X_18, e_18, W_18, st_18⟩ := stC X_14 hx hZ e_14 Ar_18 (j := (100 : Int32)) (own_inbs (n := 101) (i := 100) S_18 (by decide) (by decide)) (g := (mkF m 50 #[.val (.ref a1), .val (.ref a2)] [(.int d3), (.int (100 : Int32)), (.ref a1)])) rfl rfl (hb hby d5_50)
  have V_18 : Arv Z h_18 a1 k1 .char (Int32.ofNat 101) (((((((List.replicate 101 (.int (0 : Int32))).set 0 (.int (nar .char c0))).set 1 (.int (nar .char c1))).set 97 (.int (nar .char d0))).set 98 (.int (nar .char d1))).set 99 (.int (nar .char d2))).set 100 (.int (nar .char d3))) (.int (0 : Int32)) := Arv.set Ar_18 q_18 S_18 M_18 H_18 G_18 (fits_nar_char _) W_18 100 rfl (by rw [List.length_set, List.length_set, List.length_set, List.length_set, List.length_set, List.length_replicate]; decide)
  have N_18 := Fr.snoc X_18 N_14 g1
  refine own_via st_18 ?_
  show own_Go p e below _ (T_18.setTop (mkF m 51 #[.val (.ref a1), .val (.ref a2)] []))
  have V_19 : Arv Z h_18 a1 k1 .char (Int32.ofNat 101) (((own_t c0 c1 d0 d1 d2 d3 d4 d5).take 101).map Value.int) (.int (0 : Int32)) := by have q := V_18; rw [own_nar16 hc0, own_nar16 hc1, own_nar16 hd0, own_nar16 hd1, own_nar16 hd2, own_nar16 hd3] at q; first | (rw [own_ck101 c0 c1 d0 d1 d2 d3 d4 d5] at q; exact q) | exact q
  refine own_bipush X_18 hx (hb hby d5_51) (q := 53) (z := (101 : Int32)) rfl rfl ?_
  refine own_aloadN X_18 hx (hb hby d5_53) (q := 54) rfl rfl rfl ?_
  obtain ⟨cl_20, Ar_20, q_20, S_20, M_20, H_20, G_20⟩ := (id V_19)
  refine own_via (X_18.arraylength hx (by rw [e_18]; exact Ar_20.1) (State.isArrayOf_alike hZ.alike Ar_20.2.1) (g := (mkF m 54 #[.val (.ref a1), .val (.ref a2)] [(.ref a1), (.int (101 : Int32))])) rfl rfl (hb hby d5_54)) ?_
  rw [len_of S_20 M_20]
  show own_Go p e below _ (T_18.setTop (mkF m 55 #[.val (.ref a1), .val (.ref a2)] [(.int (Int32.ofNat 101)), (.int (101 : Int32))]))
  refine own_via (fun _ => XS.icmpYes X_18.here hx rfl (pc0 := 55) (pc' := 66) rfl (hb hby d5_55) rfl (flt ((by decide) : ¬ ((101 : Int32) < (Int32.ofNat 101)))).2.1 (by decide) (by decide)) ?_
  show own_Go p e below _ (T_18.setTop (mkF m 66 #[.val (.ref a1), .val (.ref a2)] []))
  have K_21 : Keep h0 h_18 [a1] := Keep.wr (ws := [a1]) K_17 W_18 (Or.inl (List.mem_of_getElem? (i := 0) rfl))
  exact own_ret0 X_18 Bd.notSynchronized hx Bd.returns (hb hby d5_66) (by decide) (by decide) (by rw [e_18]; exact ⟨rfl, N_18, K_21, V_19⟩)
theorem ef_ck102 (m : MethodId) (a1 : Addr) (a2 : Addr) : entryFrame m #[(.ref a1), (.ref a2)] 2 = mkF m 0 #[.val (.ref a1), .val (.ref a2)] [] := by first | (simp [entryFrame, mkF, argsToLocals, Value.category]; done) | rfl
def Qck102 (Z : State) (a1 : Addr) (k1 : ClassId) (a2 : Addr) (k2 : ClassId) (c0 : Int32) (c1 : Int32) (d0 : Int32) (d1 : Int32) (d2 : Int32) (d3 : Int32) (d4 : Int32) (d5 : Int32) (h0 : Heap) (n0 : Nat) (v : Option Value) (h : Heap) (L : List Loc) : Prop := v = none ∧ Fr n0 L ∧ Keep h0 h [a1] ∧ (Arv Z h a1 k1 .char (Int32.ofNat 102) (((own_t c0 c1 d0 d1 d2 d3 d4 d5).take 102).map Value.int) (.int (0 : Int32)))
theorem rmck102 (l : Launch) (Z : State) (a0 : Array Value) (hw : ∀ d ∈ tables_1, d.before a0 Z = true) (ws : List Jvm.Cond) (a1 : Addr) (k1 : ClassId) (a2 : Addr) (k2 : ClassId) (c0 : Int32) (c1 : Int32) (d0 : Int32) (d1 : Int32) (d2 : Int32) (d3 : Int32) (d4 : Int32) (d5 : Int32) (h0 : Heap) (n0 : Nat) (Z0 : n0 ≤ h0.size) (A1 : Arv Z h0 a1 k1 .char (Int32.ofNat 102) (List.replicate 102 (.int (0 : Int32))) (.int (0 : Int32))) (A2 : Arv Z h0 a2 k2 .char (Int32.ofNat 103) ((own_t c0 c1 d0 d1 d2 d3 d4 d5).map Value.int) (.int (0 : Int32))) (g1 : n0 ≤ a1) (ne : a2 ≠ a1) (hc0 : ¬ c0 < 0 ∧ ¬ (65535 : Int32) < c0) (hc1 : ¬ c1 < 0 ∧ ¬ (65535 : Int32) < c1) (hd0 : ¬ d0 < 0 ∧ ¬ (65535 : Int32) < d0) (hd1 : ¬ d1 < 0 ∧ ¬ (65535 : Int32) < d1) (hd2 : ¬ d2 < 0 ∧ ¬ (65535 : Int32) < d2) (hd3 : ¬ d3 < 0 ∧ ¬ (65535 : Int32) < d3) (hd4 : ¬ d4 < 0 ∧ ¬ (65535 : Int32) < d4) (hd5 : ¬ d5 < 0 ∧ ¬ (65535 : Int32) < d5) :
    MetFree l (⟨"com/example/tender/tender/mailbox/MailAbstractOfPinLaw", "copyKey", "([C[C)V"⟩ : MethodName) (head1 (Jvm.Cond.code (⟨"com/example/tender/tender/mailbox/MailAbstractOfPinLaw", "copyKey", "([C[C)V"⟩ : MethodName) method_6_code 2 none :: ws) ({ frames := 0, cells := 0, slots := 0, locals := 0 } : Room)) (fun a U => a = #[(.ref a1), (.ref a2)] ∧ Z.Warmed39 U.vm ∧ U.heap = h0) (fun _ _ _ _ _ => True) (fun _ U o U' => ∃ v L, o = .returned v ∧ Qck102 Z a1 k1 a2 k2 c0 c1 d0 d1 d2 d3 d4 d5 h0 n0 v U'.heap L ∧ FrameEnd U o U' L ({ frames := 0, cells := 0, slots := 0, locals := 0 } : Room).cells ({ frames := 0, cells := 0, slots := 0, locals := 0 } : Room).slots) := by
  refine MetFree.of_bodySF (plainFor_of_name pn_com_example_tender_tender_mailbox_MailAbstractOfPinLaw) hisR ?_
  intro p e s m args below meth c s₁ Bd hml0 hP hK
  obtain ⟨rfl, hZ, hH0⟩ := hP
  have hx := Bd.exec
  have hby := Bd.bytes
  have hml : c.maxLocals = 2 := hml0
  have hown : s.vm.findClass "com/example/tender/tender/mailbox/MailAbstractOfPinLaw" = some m.cls := findClass_of_methodNamed Bd.named
  have hnm := (name_of_methodNamed Bd.named Bd.method).1
  have X0 : Stand p l e ({ frames := 0, cells := 0, slots := 0, locals := 0 } : Room) s m #[(.ref a1), (.ref a2)] below meth c s₁ [] 0 0 := Stand.of_body Bd
  have e0 : s₁.heap = h0 := by rw [← hH0, Bd.state]; rfl
  have N0 := Fr.nil n0
  refine own_cast (ef_ck102 m a1 a2) ?_
  show own_Go p e below (fun o U' => ∃ v L, o = .returned v ∧ Qck102 Z a1 k1 a2 k2 c0 c1 d0 d1 d2 d3 d4 d5 h0 n0 v U'.heap L ∧ FrameEnd s o U' L ({ frames := 0, cells := 0, slots := 0, locals := 0 } : Room).cells ({ frames := 0, cells := 0, slots := 0, locals := 0 } : Room).slots) (s₁.setTop (mkF m 0 #[.val (.ref a1), .val (.ref a2)] []))
  refine own_aloadN X0 hx (hb hby d5_0) (q := 1) rfl rfl rfl ?_
  refine own_iconst X0 hx (hb hby d5_1) (q := 2) (z := (0 : Int32)) rfl rfl ?_
  refine own_aloadN X0 hx (hb hby d5_2) (q := 3) rfl rfl rfl ?_
  refine own_iconst X0 hx (hb hby d5_3) (q := 4) (z := (0 : Int32)) rfl rfl ?_
  obtain ⟨cl_1, Ar_1, q_1, S_1, M_1, H_1, G_1⟩ := (id A2)
  have ib_1 := own_inbs (n := 103) (i := 0) S_1 (by omega) (by omega)
  refine own_via (X0.caload hx (j := Int32.ofNat 0) (v := .int c0) (by rw [e0]; exact Ar_1.1) (State.isArrayOf_alike hZ.alike Ar_1.2.1) Ar_1.2.2 ib_1 (Has.at H_1 ib_1 (by first | rfl | (rw [own_clamp (by omega)]; rfl))) (g := (mkF m 4 #[.val (.ref a1), .val (.ref a2)] [(.int (0 : Int32)), (.ref a2), (.int (0 : Int32)), (.ref a1)])) rfl rfl (hb hby d5_4)) ?_
  show own_Go p e below _ (s₁.setTop (mkF m 5 #[.val (.ref a1), .val (.ref a2)] [(.int c0), (.int (0 : Int32)), (.ref a1)]))
  obtain ⟨cl_2, Ar_2, q_2, S_2, M_2, H_2, G_2⟩ := (id A1)
  obtain ⟨T_2, h_2, X_2, e_2, W_2, st_2⟩ := stC X0 hx hZ e0 Ar_2 (j := (0 : Int32)) (own_inbs (n := 102) (i := 0) S_2 (by decide) (by decide)) (g := (mkF m 5 #[.val (.ref a1), .val (.ref a2)] [(.int c0), (.int (0 : Int32)), (.ref a1)])) rfl rfl (hb hby d5_5)
  have V_2 : Arv Z h_2 a1 k1 .char (Int32.ofNat 102) ((List.replicate 102 (.int (0 : Int32))).set 0 (.int (nar .char c0))) (.int (0 : Int32)) := Arv.set Ar_2 q_2 S_2 M_2 H_2 G_2 (fits_nar_char _) W_2 0 rfl (by rw [List.length_replicate]; decide)
  have N_2 := Fr.snoc X_2 N0 g1
  refine own_via st_2 ?_
  show own_Go p e below _ (T_2.setTop (mkF m 6 #[.val (.ref a1), .val (.ref a2)] []))
  refine own_aloadN X_2 hx (hb hby d5_6) (q := 7) rfl rfl rfl ?_
  refine own_iconst X_2 hx (hb hby d5_7) (q := 8) (z := (1 : Int32)) rfl rfl ?_
  refine own_aloadN X_2 hx (hb hby d5_8) (q := 9) rfl rfl rfl ?_
  refine own_iconst X_2 hx (hb hby d5_9) (q := 10) (z := (1 : Int32)) rfl rfl ?_
  have K_4 : Keep h0 h_2 [a1] := Keep.wr (ws := [a1]) (own_keep_mono (Keep.refl h0 []) (by simp)) W_2 (Or.inl (List.mem_of_getElem? (i := 0) rfl))
  obtain ⟨cl_3, Ar_3, q_3, S_3, M_3, H_3, G_3⟩ := (id (A2.keep K_4 (ninS ne nin0)))
  have ib_3 := own_inbs (n := 103) (i := 1) S_3 (by omega) (by omega)
  refine own_via (X_2.caload hx (j := Int32.ofNat 1) (v := .int c1) (by rw [e_2]; exact Ar_3.1) (State.isArrayOf_alike hZ.alike Ar_3.2.1) Ar_3.2.2 ib_3 (Has.at H_3 ib_3 (by first | rfl | (rw [own_clamp (by omega)]; rfl))) (g := (mkF m 10 #[.val (.ref a1), .val (.ref a2)] [(.int (1 : Int32)), (.ref a2), (.int (1 : Int32)), (.ref a1)])) rfl rfl (hb hby d5_10)) ?_
  show own_Go p e below _ (T_2.setTop (mkF m 11 #[.val (.ref a1), .val (.ref a2)] [(.int c1), (.int (1 : Int32)), (.ref a1)]))
  obtain ⟨cl_5, Ar_5, q_5, S_5, M_5, H_5, G_5⟩ := (id V_2)
  obtain ⟨T_5, h_5, X_5, e_5, W_5, st_5⟩ := stC X_2 hx hZ e_2 Ar_5 (j := (1 : Int32)) (own_inbs (n := 102) (i := 1) S_5 (by decide) (by decide)) (g := (mkF m 11 #[.val (.ref a1), .val (.ref a2)] [(.int c1), (.int (1 : Int32)), (.ref a1)])) rfl rfl (hb hby d5_11)
  have V_5 : Arv Z h_5 a1 k1 .char (Int32.ofNat 102) (((List.replicate 102 (.int (0 : Int32))).set 0 (.int (nar .char c0))).set 1 (.int (nar .char c1))) (.int (0 : Int32)) := Arv.set Ar_5 q_5 S_5 M_5 H_5 G_5 (fits_nar_char _) W_5 1 rfl (by rw [List.length_set, List.length_replicate]; decide)
  have N_5 := Fr.snoc X_5 N_2 g1
  refine own_via st_5 ?_
  show own_Go p e below _ (T_5.setTop (mkF m 12 #[.val (.ref a1), .val (.ref a2)] []))
  refine own_aloadN X_5 hx (hb hby d5_12) (q := 13) rfl rfl rfl ?_
  refine own_bipush X_5 hx (hb hby d5_13) (q := 15) (z := (97 : Int32)) rfl rfl ?_
  refine own_aloadN X_5 hx (hb hby d5_15) (q := 16) rfl rfl rfl ?_
  refine own_bipush X_5 hx (hb hby d5_16) (q := 18) (z := (97 : Int32)) rfl rfl ?_
  have K_7 : Keep h0 h_5 [a1] := Keep.wr (ws := [a1]) K_4 W_5 (Or.inl (List.mem_of_getElem? (i := 0) rfl))
  obtain ⟨cl_6, Ar_6, q_6, S_6, M_6, H_6, G_6⟩ := (id (A2.keep K_7 (ninS ne nin0)))
  have ib_6 := own_inbs (n := 103) (i := 97) S_6 (by omega) (by omega)
  refine own_via (X_5.caload hx (j := Int32.ofNat 97) (v := .int d0) (by rw [e_5]; exact Ar_6.1) (State.isArrayOf_alike hZ.alike Ar_6.2.1) Ar_6.2.2 ib_6 (Has.at H_6 ib_6 (by first | rfl | (rw [own_clamp (by omega)]; rfl))) (g := (mkF m 18 #[.val (.ref a1), .val (.ref a2)] [(.int (97 : Int32)), (.ref a2), (.int (97 : Int32)), (.ref a1)])) rfl rfl (hb hby d5_18)) ?_
  show own_Go p e below _ (T_5.setTop (mkF m 19 #[.val (.ref a1), .val (.ref a2)] [(.int d0), (.int (97 : Int32)), (.ref a1)]))
  obtain ⟨cl_8, Ar_8, q_8, S_8, M_8, H_8, G_8⟩ := (id V_5)
  obtain ⟨T_8, h_8, X_8, e_8, W_8, st_8⟩ := stC X_5 hx hZ e_5 Ar_8 (j := (97 : Int32)) (own_inbs (n := 102) (i := 97) S_8 (by decide) (by decide)) (g := (mkF m 19 #[.val (.ref a1), .val (.ref a2)] [(.int d0), (.int (97 : Int32)), (.ref a1)])) rfl rfl (hb hby d5_19)
  have V_8 : Arv Z h_8 a1 k1 .char (Int32.ofNat 102) ((((List.replicate 102 (.int (0 : Int32))).set 0 (.int (nar .char c0))).set 1 (.int (nar .char c1))).set 97 (.int (nar .char d0))) (.int (0 : Int32)) := Arv.set Ar_8 q_8 S_8 M_8 H_8 G_8 (fits_nar_char _) W_8 97 rfl (by rw [List.length_set, List.length_set, List.length_replicate]; decide)
  have N_8 := Fr.snoc X_8 N_5 g1
  refine own_via st_8 ?_
  show own_Go p e below _ (T_8.setTop (mkF m 20 #[.val (.ref a1), .val (.ref a2)] []))
  refine own_aloadN X_8 hx (hb hby d5_20) (q := 21) rfl rfl rfl ?_
  refine own_bipush X_8 hx (hb hby d5_21) (q := 23) (z := (98 : Int32)) rfl rfl ?_
  refine own_aloadN X_8 hx (hb hby d5_23) (q := 24) rfl rfl rfl ?_
  refine own_bipush X_8 hx (hb hby d5_24) (q := 26) (z := (98 : Int32)) rfl rfl ?_
  have K_10 : Keep h0 h_8 [a1] := Keep.wr (ws := [a1]) K_7 W_8 (Or.inl (List.mem_of_getElem? (i := 0) rfl))
  obtain ⟨cl_9, Ar_9, q_9, S_9, M_9, H_9, G_9⟩ := (id (A2.keep K_10 (ninS ne nin0)))
  have ib_9 := own_inbs (n := 103) (i := 98) S_9 (by omega) (by omega)
  refine own_via (X_8.caload hx (j := Int32.ofNat 98) (v := .int d1) (by rw [e_8]; exact Ar_9.1) (State.isArrayOf_alike hZ.alike Ar_9.2.1) Ar_9.2.2 ib_9 (Has.at H_9 ib_9 (by first | rfl | (rw [own_clamp (by omega)]; rfl))) (g := (mkF m 26 #[.val (.ref a1), .val (.ref a2)] [(.int (98 : Int32)), (.ref a2), (.int (98 : Int32)), (.ref a1)])) rfl rfl (hb hby d5_26)) ?_
  show own_Go p e below _ (T_8.setTop (mkF m 27 #[.val (.ref a1), .val (.ref a2)] [(.int d1), (.int (98 : Int32)), (.ref a1)]))
  obtain ⟨cl_11, Ar_11, q_11, S_11, M_11, H_11, G_11⟩ := (id V_8)
  obtain ⟨T_11, h_11, X_11, e_11, W_11, st_11⟩ := stC X_8 hx hZ e_8 Ar_11 (j := (98 : Int32)) (own_inbs (n := 102) (i := 98) S_11 (by decide) (by decide)) (g := (mkF m 27 #[.val (.ref a1), .val (.ref a2)] [(.int d1), (.int (98 : Int32)), (.ref a1)])) rfl rfl (hb hby d5_27)
  have V_11 : Arv Z h_11 a1 k1 .char (Int32.ofNat 102) (((((List.replicate 102 (.int (0 : Int32))).set 0 (.int (nar .char c0))).set 1 (.int (nar .char c1))).set 97 (.int (nar .char d0))).set 98 (.int (nar .char d1))) (.int (0 : Int32)) := Arv.set Ar_11 q_11 S_11 M_11 H_11 G_11 (fits_nar_char _) W_11 98 rfl (by rw [List.length_set, List.length_set, List.length_set, List.length_replicate]; decide)
  have N_11 := Fr.snoc X_11 N_8 g1
  refine own_via st_11 ?_
  show own_Go p e below _ (T_11.setTop (mkF m 28 #[.val (.ref a1), .val (.ref a2)] []))
  refine own_aloadN X_11 hx (hb hby d5_28) (q := 29) rfl rfl rfl ?_
  refine own_bipush X_11 hx (hb hby d5_29) (q := 31) (z := (99 : Int32)) rfl rfl ?_
  refine own_aloadN X_11 hx (hb hby d5_31) (q := 32) rfl rfl rfl ?_
  refine own_bipush X_11 hx (hb hby d5_32) (q := 34) (z := (99 : Int32)) rfl rfl ?_
  have K_13 : Keep h0 h_11 [a1] := Keep.wr (ws := [a1]) K_10 W_11 (Or.inl (List.mem_of_getElem? (i := 0) rfl))
  obtain ⟨cl_12, Ar_12, q_12, S_12, M_12, H_12, G_12⟩ := (id (A2.keep K_13 (ninS ne nin0)))
  have ib_12 := own_inbs (n := 103) (i := 99) S_12 (by omega) (by omega)
  refine own_via (X_11.caload hx (j := Int32.ofNat 99) (v := .int d2) (by rw [e_11]; exact Ar_12.1) (State.isArrayOf_alike hZ.alike Ar_12.2.1) Ar_12.2.2 ib_12 (Has.at H_12 ib_12 (by first | rfl | (rw [own_clamp (by omega)]; rfl))) (g := (mkF m 34 #[.val (.ref a1), .val (.ref a2)] [(.int (99 : Int32)), (.ref a2), (.int (99 : Int32)), (.ref a1)])) rfl rfl (hb hby d5_34)) ?_
  show own_Go p e below _ (T_11.setTop (mkF m 35 #[.val (.ref a1), .val (.ref a2)] [(.int d2), (.int (99 : Int32)), (.ref a1)]))
  obtain ⟨cl_14, Ar_14, q_14, S_14, M_14, H_14, G_14⟩ := (id V_11)
  obtain ⟨T_14, h_14, X_14, e_14, W_14, st_14⟩ := stC X_11 hx hZ e_11 Ar_14 (j := (99 : Int32)) (own_inbs (n := 102) (i := 99) S_14 (by decide) (by decide)) (g := (mkF m 35 #[.val (.ref a1), .val (.ref a2)] [(.int d2), (.int (99 : Int32)), (.ref a1)])) rfl rfl (hb hby d5_35)
  have V_14 : Arv Z h_14 a1 k1 .char (Int32.ofNat 102) ((((((List.replicate 102 (.int (0 : Int32))).set 0 (.int (nar .char c0))).set 1 (.int (nar .char c1))).set 97 (.int (nar .char d0))).set 98 (.int (nar .char d1))).set 99 (.int (nar .char d2))) (.int (0 : Int32)) := Arv.set Ar_14 q_14 S_14 M_14 H_14 G_14 (fits_nar_char _) W_14 99 rfl (by rw [List.length_set, List.length_set, List.length_set, List.length_set, List.length_replicate]; decide)
  have N_14 := Fr.snoc X_14 N_11 g1
  refine own_via st_14 ?_
  show own_Go p e below _ (T_14.setTop (mkF m 36 #[.val (.ref a1), .val (.ref a2)] []))
  refine own_bipush X_14 hx (hb hby d5_36) (q := 38) (z := (100 : Int32)) rfl rfl ?_
  refine own_aloadN X_14 hx (hb hby d5_38) (q := 39) rfl rfl rfl ?_
  obtain ⟨cl_15, Ar_15, q_15, S_15, M_15, H_15, G_15⟩ := (id V_14)
  refine own_via (X_14.arraylength hx (by rw [e_14]; exact Ar_15.1) (State.isArrayOf_alike hZ.alike Ar_15.2.1) (g := (mkF m 39 #[.val (.ref a1), .val (.ref a2)] [(.ref a1), (.int (100 : Int32))])) rfl rfl (hb hby d5_39)) ?_
  rw [len_of S_15 M_15]
  show own_Go p e below _ (T_14.setTop (mkF m 40 #[.val (.ref a1), .val (.ref a2)] [(.int (Int32.ofNat 102)), (.int (100 : Int32))]))
  refine own_via (fun _ => XS.icmpNo X_14.here hx rfl (hb hby d5_40) rfl (tlt ((by decide) : (100 : Int32) < (Int32.ofNat 102))).2.1) ?_
  show own_Go p e below _ (T_14.setTop (mkF m 43 #[.val (.ref a1), .val (.ref a2)] []))
  refine own_aloadN X_14 hx (hb hby d5_43) (q := 44) rfl rfl rfl ?_
  refine own_bipush X_14 hx (hb hby d5_44) (q := 46) (z := (100 : Int32)) rfl rfl ?_
  refine own_aloadN X_14 hx (hb hby d5_46) (q := 47) rfl rfl rfl ?_
  refine own_bipush X_14 hx (hb hby d5_47) (q := 49) (z := (100 : Int32)) rfl rfl ?_
  have K_17 : Keep h0 h_14 [a1] := Keep.wr (ws := [a1]) K_13 W_14 (Or.inl (List.mem_of_getElem? (i := 0) rfl))
  obtain ⟨cl_16, Ar_16, q_16, S_16, M_16, H_16, G_16⟩ := (id (A2.keep K_17 (ninS ne nin0)))
  have ib_16 := own_inbs (n := 103) (i := 100) S_16 (by omega) (by omega)
  refine own_via (X_14.caload hx (j := Int32.ofNat 100) (v := .int d3) (by rw [e_14]; exact Ar_16.1) (State.isArrayOf_alike hZ.alike Ar_16.2.1) Ar_16.2.2 ib_16 (Has.at H_16 ib_16 (by first | rfl | (rw [own_clamp (by omega)]; rfl))) (g := (mkF m 49 #[.val (.ref a1), .val (.ref a2)] [(.int (100 : Int32)), (.ref a2), (.int (100 : Int32)), (.ref a1)])) rfl rfl (hb hby d5_49)) ?_
  show own_Go p e below _ (T_14.setTop (mkF m 50 #[.val (.ref a1), .val (.ref a2)] [(.int d3), (.int (100 : Int32)), (.ref a1)]))
  obtain ⟨cl_18, Ar_18, q_18, S_18, M_18, H_18, G_18⟩ := (id V_14)
  obtain ⟨T_18, h_18, X_18, e_18, W_18, st_18⟩ := stC X_14 hx hZ e_14 Ar_18 (j := (100 : Int32)) (own_inbs (n := 102) (i := 100) S_18 (by decide) (by decide)) (g := (mkF m 50 #[.val (.ref a1), .val (.ref a2)] [(.int d3), (.int (100 : Int32)), (.ref a1)])) rfl rfl (hb hby d5_50)
  have V_18 : Arv Z h_18 a1 k1 .char (Int32.ofNat 102) (((((((List.replicate 102 (.int (0 : Int32))).set 0 (.int (nar .char c0))).set 1 (.int (nar .char c1))).set 97 (.int (nar .char d0))).set 98 (.int (nar .char d1))).set 99 (.int (nar .char d2))).set 100 (.int (nar .char d3))) (.int (0 : Int32)) := Arv.set Ar_18 q_18 S_18 M_18 H_18 G_18 (fits_nar_char _) W_18 100 rfl (by rw [List.length_set, List.length_set, List.length_set, List.length_set, List.length_set, List.length_replicate]; decide)
  have N_18 := Fr.snoc X_18 N_14 g1
  refine own_via st_18 ?_
  show own_Go p e below _ (T_18.setTop (mkF m 51 #[.val (.ref a1), .val (.ref a2)] []))
  refine own_bipush X_18 hx (hb hby d5_51) (q := 53) (z := (101 : Int32)) rfl rfl ?_
  refine own_aloadN X_18 hx (hb hby d5_53) (q := 54) rfl rfl rfl ?_
  obtain ⟨cl_19, Ar_19, q_19, S_19, M_19, H_19, G_19⟩ := (id V_18)
  refine own_via (X_18.arraylength hx (by rw [e_18]; exact Ar_19.1) (State.isArrayOf_alike hZ.alike Ar_19.2.1) (g := (mkF m 54 #[.val (.ref a1), .val (.ref a2)] [(.ref a1), (.int (101 : Int32))])) rfl rfl (hb hby d5_54)) ?_
  rw [len_of S_19 M_19]
  show own_Go p e below _ (T_18.setTop (mkF m 55 #[.val (.ref a1), .val (.ref a2)] [(.int (Int32.ofNat 102)), (.int (101 : Int32))]))
  refine own_via (fun _ => XS.icmpNo X_18.here hx rfl (hb hby d5_55) rfl (tlt ((by decide) : (101 : Int32) < (Int32.ofNat 102))).2.1) ?_
  show own_Go p e below _ (T_18.setTop (mkF m 58 #[.val (.ref a1), .val (.ref a2)] []))
  refine own_aloadN X_18 hx (hb hby d5_58) (q := 59) rfl rfl rfl ?_
  refine own_bipush X_18 hx (hb hby d5_59) (q := 61) (z := (101 : Int32)) rfl rfl ?_
  refine own_aloadN X_18 hx (hb hby d5_61) (q := 62) rfl rfl rfl ?_
  refine own_bipush X_18 hx (hb hby d5_62) (q := 64) (z := (101 : Int32)) rfl rfl ?_
  have K_21 : Keep h0 h_18 [a1] := Keep.wr (ws := [a1]) K_17 W_18 (Or.inl (List.mem_of_getElem? (i := 0) rfl))
  obtain ⟨cl_20, Ar_20, q_20, S_20, M_20, H_20, G_20⟩ := (id (A2.keep K_21 (ninS ne nin0)))
  have ib_20 := own_inbs (n := 103) (i := 101) S_20 (by omega) (by omega)
  refine own_via (X_18.caload hx (j := Int32.ofNat 101) (v := .int d4) (by rw [e_18]; exact Ar_20.1) (State.isArrayOf_alike hZ.alike Ar_20.2.1) Ar_20.2.2 ib_20 (Has.at H_20 ib_20 (by first | rfl | (rw [own_clamp (by omega)]; rfl))) (g := (mkF m 64 #[.val (.ref a1), .val (.ref a2)] [(.int (101 : Int32)), (.ref a2), (.int (101 : Int32)), (.ref a1)])) rfl rfl (hb hby d5_64)) ?_
  show own_Go p e below _ (T_18.setTop (mkF m 65 #[.val (.ref a1), .val (.ref a2)] [(.int d4), (.int (101 : Int32)), (.ref a1)]))
  obtain ⟨cl_22, Ar_22, q_22, S_22, M_22, H_22, G_22⟩ := (id V_18)
  obtain ⟨T_22, h_22, X_22, e_22, W_22, st_22⟩ := stC X_18 hx hZ e_18 Ar_22 (j := (101 : Int32)) (own_inbs (n := 102) (i := 101) S_22 (by decide) (by decide)) (g := (mkF m 65 #[.val (.ref a1), .val (.ref a2)] [(.int d4), (.int (101 : Int32)), (.ref a1)])) rfl rfl (hb hby d5_65)
  have V_22 : Arv Z h_22 a1 k1 .char (Int32.ofNat 102) ((((((((List.replicate 102 (.int (0 : Int32))).set 0 (.int (nar .char c0))).set 1 (.int (nar .char c1))).set 97 (.int (nar .char d0))).set 98 (.int (nar .char d1))).set 99 (.int (nar .char d2))).set 100 (.int (nar .char d3))).set 101 (.int (nar .char d4))) (.int (0 : Int32)) := Arv.set Ar_22 q_22 S_22 M_22 H_22 G_22 (fits_nar_char _) W_22 101 rfl (by rw [List.length_set, List.length_set, List.length_set, List.length_set, List.length_set, List.length_set, List.length_replicate]; decide)
  have N_22 := Fr.snoc X_22 N_18 g1
  refine own_via st_22 ?_
  show own_Go p e below _ (T_22.setTop (mkF m 66 #[.val (.ref a1), .val (.ref a2)] []))
  have V_23 : Arv Z h_22 a1 k1 .char (Int32.ofNat 102) (((own_t c0 c1 d0 d1 d2 d3 d4 d5).take 102).map Value.int) (.int (0 : Int32)) := by have q := V_22; rw [own_nar16 hc0, own_nar16 hc1, own_nar16 hd0, own_nar16 hd1, own_nar16 hd2, own_nar16 hd3, own_nar16 hd4] at q; first | (rw [own_ck102 c0 c1 d0 d1 d2 d3 d4 d5] at q; exact q) | exact q
  have K_24 : Keep h0 h_22 [a1] := Keep.wr (ws := [a1]) K_21 W_22 (Or.inl (List.mem_of_getElem? (i := 0) rfl))
  exact own_ret0 X_22 Bd.notSynchronized hx Bd.returns (hb hby d5_66) (by decide) (by decide) (by rw [e_22]; exact ⟨rfl, N_22, K_24, V_23⟩)
theorem pd_30 : parseMethodDescriptor "(J)C" = some ⟨[.long], some .char⟩ := by decide +kernel
theorem pd_31 : parseMethodDescriptor "(Ljava/lang/String;)Ljava/lang/String;" = some ⟨[(.object "java/lang/String")], some (.object "java/lang/String")⟩ := by decide +kernel
theorem pd_32 : parseMethodDescriptor "(Ljava/lang/Object;)Z" = some ⟨[(.object "java/lang/Object")], some .boolean⟩ := by decide +kernel
theorem pd_33 : parseMethodDescriptor "([C)V" = some ⟨[(.array .char)], none⟩ := by decide +kernel
theorem pd_34 : parseMethodDescriptor "([CI)I" = some ⟨[(.array .char), .int], some .int⟩ := by decide +kernel
theorem pd_35 : parseMethodDescriptor "([C[C)V" = some ⟨[(.array .char), (.array .char)], none⟩ := by decide +kernel
theorem ef_0 (m : MethodId) (q1 : Int64) (q2 : Int64) (q3 : Int64) (p4 : Int32) : entryFrame m #[(.long q1), (.long q2), (.long q3), (.int p4)] maxLocals = mkF m 0 #[.val (.long q1), .second, .val (.long q2), .second, .val (.long q3), .second, .val (.int p4), .unset, .unset, .unset, .unset, .unset, .unset, .unset, .unset, .unset, .unset, .unset, .unset, .unset, .unset, .unset, .unset, .unset] [] := by first | (simp [entryFrame, mkF, argsToLocals, Value.category, maxLocals]; done) | rfl
def Q0 (Z : State) (q1 : Int64) (q2 : Int64) (q3 : Int64) (p4 : Int32) (cz : Int32) (sf : Value) (h0 : Heap) (n0 : Nat) (v : Option Value) (h : Heap) (L : List Loc) (vm : Vm) : Prop := v = some (.int (1 : Int32)) ∧ Fr n0 L ∧ Keep h0 h []
theorem rm0 (l : Launch) (Z : State) (a0 : Array Value) (hw : ∀ d ∈ tables_1, d.before a0 Z = true) (ws : List Jvm.Cond) (q1 : Int64) (q2 : Int64) (q3 : Int64) (p4 : Int32) (cz : Int32) (sf : Value) (h0 : Heap) (n0 : Nat) (Z0 : n0 ≤ h0.size) (O0 : Old Z n0 h0) (Sad : Sta Z Z.heap "java/lang/StringUTF16" "$assertionsDisabled" "Z" (.int (1 : Int32))) (Shi : Sta Z Z.heap "java/lang/StringUTF16" "HI_BYTE_SHIFT" "I" (.int (0 : Int32))) (Slo : Sta Z Z.heap "java/lang/StringUTF16" "LO_BYTE_SHIFT" "I" (.int (8 : Int32))) (Scs : Sta Z Z.heap "java/lang/String" "COMPACT_STRINGS" "Z" (.int cz)) (hcs : ¬ (cz = (0 : Int32))) (Ssf : Sta Z Z.heap "jdk/internal/util/Preconditions" "SIOOBE_FORMATTER" "Ljava/util/function/BiFunction;" sf) (hsf : sf.isRef = true) :
    MetFree l x (head1 (Jvm.Cond.code x code maxLocals ret :: ws) room_1) (fun a U => a = #[(.long q1), (.long q2), (.long q3), (.int p4)] ∧ Z.Warmed39 U.vm ∧ U.heap = h0 ∧ CHv Z consts_1 U.vm h0) (fun _ _ _ _ _ => True) (fun _ U o U' => ∃ v L, o = .returned v ∧ Q0 Z q1 q2 q3 p4 cz sf h0 n0 v U'.heap L U'.vm ∧ ReturnedEndW U o U' L room_1.cells room_1.slots) := by
  refine MetFree.of_bodySF (plainFor_of_name pn_com_example_tender_tender_mailbox_MailAbstractOfPinLaw) hisR ?_
  intro p e s m args below meth c s₁ Bd hml0 hP hK
  obtain ⟨rfl, hZ, hH0, J0⟩ := hP
  have hx := Bd.exec
  have hby := Bd.bytes
  have hml : c.maxLocals = 24 := hml0
  have hown : s.vm.findClass "com/example/tender/tender/mailbox/MailAbstractOfPinLaw" = some m.cls := findClass_of_methodNamed Bd.named
  have hnm := (name_of_methodNamed Bd.named Bd.method).1
  have X0 : Stand p l e room_1 (s.setVm s.vm) m #[(.long q1), (.long q2), (.long q3), (.int p4)] below meth c s₁ [] 0 0 := Stand.of_body Bd
  have hS0 : s.Since s.vm 0 := (State.WarmedH.refl s).since 0
  have e0 : s₁.heap = h0 := by rw [← hH0, Bd.state]; rfl
  have N0 := Fr.nil n0
  refine own_cast (ef_0 m q1 q2 q3 p4) ?_
  show own_Go p e below (fun o U' => ∃ v L, o = .returned v ∧ Q0 Z q1 q2 q3 p4 cz sf h0 n0 v U'.heap L U'.vm ∧ ReturnedEndW s o U' L room_1.cells room_1.slots) (s₁.setTop (mkF m 0 #[.val (.long q1), .second, .val (.long q2), .second, .val (.long q3), .second, .val (.int p4), .unset, .unset, .unset, .unset, .unset, .unset, .unset, .unset, .unset, .unset, .unset, .unset, .unset, .unset, .unset, .unset, .unset] []))
  refine own_via (fun _ => XS.lloadN X0.here hx rfl (hb hby at_0) rfl) ?_
  show own_Go p e below _ (s₁.setTop (mkF m 1 #[.val (.long q1), .second, .val (.long q2), .second, .val (.long q3), .second, .val (.int p4), .unset, .unset, .unset, .unset, .unset, .unset, .unset, .unset, .unset, .unset, .unset, .unset, .unset, .unset, .unset, .unset, .unset] [(.long q1)]))
  obtain ⟨_, _, ⟨T_1, L_1, k_1, n_1⟩, -, X_1, ⟨Lc_1, hQ_1, l_1, y_1, z_1⟩, st_1⟩ := Jvm.LawKit.callS X0 hx (y := (⟨"com/example/tender/tender/mailbox/MailAbstractOfPinLaw", "mk", "(J)C"⟩ : MethodName)) hown (mvT hZ (own_w hw 0 rfl)) (mvT hZ (own_w hw 1 rfl)) (mvT hZ (own_w hw 2 rfl)) (mvT hZ (own_w hw 3 rfl)) (by decide) (backOf (W := 0) (rmmk l Z a0 hw [] q1 h0 n0 Z0 ) hZ (own_w hw 3 rfl) (own_w hw 2 rfl) (by decide) (by decide)) (g := (mkF m 1 #[.val (.long q1), .second, .val (.long q2), .second, .val (.long q3), .second, .val (.int p4), .unset, .unset, .unset, .unset, .unset, .unset, .unset, .unset, .unset, .unset, .unset, .unset, .unset, .unset, .unset, .unset, .unset] [(.long q1)])) rfl (by rw [hml]; rfl) (argsL := [(.long q1)]) (rest := []) (lenOf pd_30 rfl) rfl (by show 2 * 0 + _ ≤ _; exact Nat.le_of_eq rfl) (hb hby at_1) (fun _ _ => ⟨rfl, e0, (by decide : 0 + 0 ≤ _), (by decide : 0 + 0 ≤ _)⟩)
  dsimp only [Pt.U, Pt.locs, Pt.cells, Pt.slots] at X_1 l_1 y_1 z_1 st_1 hQ_1
  subst l_1 y_1 z_1
  obtain ⟨c0, rfl, Nq_1, e_1, q_1_0⟩ := hQ_1
  have N_1 := Fr.app N0 Nq_1
  refine own_via st_1 ?_
  show own_Go p e below _ (T_1.setTop (mkF m 4 #[.val (.long q1), .second, .val (.long q2), .second, .val (.long q3), .second, .val (.int p4), .unset, .unset, .unset, .unset, .unset, .unset, .unset, .unset, .unset, .unset, .unset, .unset, .unset, .unset, .unset, .unset, .unset] [(.int c0)]))
  have hc0 := q_1_0
  refine own_via (fun _ => XS.istore X_1.here hx rfl (hb hby at_4) rfl (l' := #[.val (.long q1), .second, .val (.long q2), .second, .val (.long q3), .second, .val (.int p4), .val (.int c0), .unset, .unset, .unset, .unset, .unset, .unset, .unset, .unset, .unset, .unset, .unset, .unset, .unset, .unset, .unset, .unset]) rfl) ?_
  show own_Go p e below _ (T_1.setTop (mkF m 6 #[.val (.long q1), .second, .val (.long q2), .second, .val (.long q3), .second, .val (.int p4), .val (.int c0), .unset, .unset, .unset, .unset, .unset, .unset, .unset, .unset, .unset, .unset, .unset, .unset, .unset, .unset, .unset, .unset] []))
  refine own_via (fun _ => XS.lloadN X_1.here hx rfl (hb hby at_6) rfl) ?_
  show own_Go p e below _ (T_1.setTop (mkF m 7 #[.val (.long q1), .second, .val (.long q2), .second, .val (.long q3), .second, .val (.int p4), .val (.int c0), .unset, .unset, .unset, .unset, .unset, .unset, .unset, .unset, .unset, .unset, .unset, .unset, .unset, .unset, .unset, .unset] [(.long q1)]))
  refine own_bipush X_1 hx (hb hby at_7) (q := 9) (z := (21 : Int32)) rfl rfl ?_
  refine own_via (fun _ => XS.lushr X_1.here hx rfl (hb hby at_9) rfl) ?_
  show own_Go p e below _ (T_1.setTop (mkF m 10 #[.val (.long q1), .second, .val (.long q2), .second, .val (.long q3), .second, .val (.int p4), .val (.int c0), .unset, .unset, .unset, .unset, .unset, .unset, .unset, .unset, .unset, .unset, .unset, .unset, .unset, .unset, .unset, .unset] [(.long ((q1.toUInt64 >>> ((21 : Int32) &&& 0x3f).toInt64.toUInt64).toInt64))]))
  obtain ⟨_, _, ⟨T_2, L_2, k_2, n_2⟩, -, X_2, ⟨Lc_2, hQ_2, l_2, y_2, z_2⟩, st_2⟩ := Jvm.LawKit.callS X_1 hx (y := (⟨"com/example/tender/tender/mailbox/MailAbstractOfPinLaw", "mk", "(J)C"⟩ : MethodName)) hown (mvT hZ (own_w hw 0 rfl)) (mvT hZ (own_w hw 1 rfl)) (mvT hZ (own_w hw 2 rfl)) (mvT hZ (own_w hw 3 rfl)) (by decide) (backOf (W := 0) (rmmk l Z a0 hw [] ((q1.toUInt64 >>> ((21 : Int32) &&& 0x3f).toInt64.toUInt64).toInt64) h0 n0 Z0 ) hZ (own_w hw 3 rfl) (own_w hw 2 rfl) (by decide) (by decide)) (g := (mkF m 10 #[.val (.long q1), .second, .val (.long q2), .second, .val (.long q3), .second, .val (.int p4), .val (.int c0), .unset, .unset, .unset, .unset, .unset, .unset, .unset, .unset, .unset, .unset, .unset, .unset, .unset, .unset, .unset, .unset] [(.long ((q1.toUInt64 >>> ((21 : Int32) &&& 0x3f).toInt64.toUInt64).toInt64))])) rfl (by rw [hml]; rfl) (argsL := [(.long ((q1.toUInt64 >>> ((21 : Int32) &&& 0x3f).toInt64.toUInt64).toInt64))]) (rest := []) (lenOf pd_30 rfl) rfl (by show 2 * 0 + _ ≤ _; exact Nat.le_of_eq rfl) (hb hby at_10) (fun _ _ => ⟨rfl, e_1, (by decide : 0 + 0 ≤ _), (by decide : 0 + 0 ≤ _)⟩)
  dsimp only [Pt.U, Pt.locs, Pt.cells, Pt.slots] at X_2 l_2 y_2 z_2 st_2 hQ_2
  subst l_2 y_2 z_2
  obtain ⟨c1, rfl, Nq_2, e_2, q_2_0⟩ := hQ_2
  have N_2 := Fr.app N_1 Nq_2
  refine own_via st_2 ?_
  show own_Go p e below _ (T_2.setTop (mkF m 13 #[.val (.long q1), .second, .val (.long q2), .second, .val (.long q3), .second, .val (.int p4), .val (.int c0), .unset, .unset, .unset, .unset, .unset, .unset, .unset, .unset, .unset, .unset, .unset, .unset, .unset, .unset, .unset, .unset] [(.int c1)]))
  have hc1 := q_2_0
  refine own_via (fun _ => XS.istore X_2.here hx rfl (hb hby at_13) rfl (l' := #[.val (.long q1), .second, .val (.long q2), .second, .val (.long q3), .second, .val (.int p4), .val (.int c0), .val (.int c1), .unset, .unset, .unset, .unset, .unset, .unset, .unset, .unset, .unset, .unset, .unset, .unset, .unset, .unset, .unset]) rfl) ?_
  show own_Go p e below _ (T_2.setTop (mkF m 15 #[.val (.long q1), .second, .val (.long q2), .second, .val (.long q3), .second, .val (.int p4), .val (.int c0), .val (.int c1), .unset, .unset, .unset, .unset, .unset, .unset, .unset, .unset, .unset, .unset, .unset, .unset, .unset, .unset, .unset] []))
  refine own_via (fun _ => XS.lloadN X_2.here hx rfl (hb hby at_15) rfl) ?_
  show own_Go p e below _ (T_2.setTop (mkF m 16 #[.val (.long q1), .second, .val (.long q2), .second, .val (.long q3), .second, .val (.int p4), .val (.int c0), .val (.int c1), .unset, .unset, .unset, .unset, .unset, .unset, .unset, .unset, .unset, .unset, .unset, .unset, .unset, .unset, .unset] [(.long q1)]))
  refine own_bipush X_2 hx (hb hby at_16) (q := 18) (z := (42 : Int32)) rfl rfl ?_
  refine own_via (fun _ => XS.lushr X_2.here hx rfl (hb hby at_18) rfl) ?_
  show own_Go p e below _ (T_2.setTop (mkF m 19 #[.val (.long q1), .second, .val (.long q2), .second, .val (.long q3), .second, .val (.int p4), .val (.int c0), .val (.int c1), .unset, .unset, .unset, .unset, .unset, .unset, .unset, .unset, .unset, .unset, .unset, .unset, .unset, .unset, .unset] [(.long ((q1.toUInt64 >>> ((42 : Int32) &&& 0x3f).toInt64.toUInt64).toInt64))]))
  obtain ⟨_, _, ⟨T_3, L_3, k_3, n_3⟩, -, X_3, ⟨Lc_3, hQ_3, l_3, y_3, z_3⟩, st_3⟩ := Jvm.LawKit.callS X_2 hx (y := (⟨"com/example/tender/tender/mailbox/MailAbstractOfPinLaw", "mk", "(J)C"⟩ : MethodName)) hown (mvT hZ (own_w hw 0 rfl)) (mvT hZ (own_w hw 1 rfl)) (mvT hZ (own_w hw 2 rfl)) (mvT hZ (own_w hw 3 rfl)) (by decide) (backOf (W := 0) (rmmk l Z a0 hw [] ((q1.toUInt64 >>> ((42 : Int32) &&& 0x3f).toInt64.toUInt64).toInt64) h0 n0 Z0 ) hZ (own_w hw 3 rfl) (own_w hw 2 rfl) (by decide) (by decide)) (g := (mkF m 19 #[.val (.long q1), .second, .val (.long q2), .second, .val (.long q3), .second, .val (.int p4), .val (.int c0), .val (.int c1), .unset, .unset, .unset, .unset, .unset, .unset, .unset, .unset, .unset, .unset, .unset, .unset, .unset, .unset, .unset] [(.long ((q1.toUInt64 >>> ((42 : Int32) &&& 0x3f).toInt64.toUInt64).toInt64))])) rfl (by rw [hml]; rfl) (argsL := [(.long ((q1.toUInt64 >>> ((42 : Int32) &&& 0x3f).toInt64.toUInt64).toInt64))]) (rest := []) (lenOf pd_30 rfl) rfl (by show 2 * 0 + _ ≤ _; exact Nat.le_of_eq rfl) (hb hby at_19) (fun _ _ => ⟨rfl, e_2, (by decide : 0 + 0 ≤ _), (by decide : 0 + 0 ≤ _)⟩)
  dsimp only [Pt.U, Pt.locs, Pt.cells, Pt.slots] at X_3 l_3 y_3 z_3 st_3 hQ_3
  subst l_3 y_3 z_3
  obtain ⟨d0, rfl, Nq_3, e_3, q_3_0⟩ := hQ_3
  have N_3 := Fr.app N_2 Nq_3
  refine own_via st_3 ?_
  show own_Go p e below _ (T_3.setTop (mkF m 22 #[.val (.long q1), .second, .val (.long q2), .second, .val (.long q3), .second, .val (.int p4), .val (.int c0), .val (.int c1), .unset, .unset, .unset, .unset, .unset, .unset, .unset, .unset, .unset, .unset, .unset, .unset, .unset, .unset, .unset] [(.int d0)]))
  have hd0 := q_3_0
  refine own_via (fun _ => XS.istore X_3.here hx rfl (hb hby at_22) rfl (l' := #[.val (.long q1), .second, .val (.long q2), .second, .val (.long q3), .second, .val (.int p4), .val (.int c0), .val (.int c1), .val (.int d0), .unset, .unset, .unset, .unset, .unset, .unset, .unset, .unset, .unset, .unset, .unset, .unset, .unset, .unset]) rfl) ?_
  show own_Go p e below _ (T_3.setTop (mkF m 24 #[.val (.long q1), .second, .val (.long q2), .second, .val (.long q3), .second, .val (.int p4), .val (.int c0), .val (.int c1), .val (.int d0), .unset, .unset, .unset, .unset, .unset, .unset, .unset, .unset, .unset, .unset, .unset, .unset, .unset, .unset] []))
  refine own_via (fun _ => XS.lloadN X_3.here hx rfl (hb hby at_24) rfl) ?_
  show own_Go p e below _ (T_3.setTop (mkF m 25 #[.val (.long q1), .second, .val (.long q2), .second, .val (.long q3), .second, .val (.int p4), .val (.int c0), .val (.int c1), .val (.int d0), .unset, .unset, .unset, .unset, .unset, .unset, .unset, .unset, .unset, .unset, .unset, .unset, .unset, .unset] [(.long q2)]))
  obtain ⟨_, _, ⟨T_4, L_4, k_4, n_4⟩, -, X_4, ⟨Lc_4, hQ_4, l_4, y_4, z_4⟩, st_4⟩ := Jvm.LawKit.callS X_3 hx (y := (⟨"com/example/tender/tender/mailbox/MailAbstractOfPinLaw", "mk", "(J)C"⟩ : MethodName)) hown (mvT hZ (own_w hw 0 rfl)) (mvT hZ (own_w hw 1 rfl)) (mvT hZ (own_w hw 2 rfl)) (mvT hZ (own_w hw 3 rfl)) (by decide) (backOf (W := 0) (rmmk l Z a0 hw [] q2 h0 n0 Z0 ) hZ (own_w hw 3 rfl) (own_w hw 2 rfl) (by decide) (by decide)) (g := (mkF m 25 #[.val (.long q1), .second, .val (.long q2), .second, .val (.long q3), .second, .val (.int p4), .val (.int c0), .val (.int c1), .val (.int d0), .unset, .unset, .unset, .unset, .unset, .unset, .unset, .unset, .unset, .unset, .unset, .unset, .unset, .unset] [(.long q2)])) rfl (by rw [hml]; rfl) (argsL := [(.long q2)]) (rest := []) (lenOf pd_30 rfl) rfl (by show 2 * 0 + _ ≤ _; exact Nat.le_of_eq rfl) (hb hby at_25) (fun _ _ => ⟨rfl, e_3, (by decide : 0 + 0 ≤ _), (by decide : 0 + 0 ≤ _)⟩)
  dsimp only [Pt.U, Pt.locs, Pt.cells, Pt.slots] at X_4 l_4 y_4 z_4 st_4 hQ_4
  subst l_4 y_4 z_4
  obtain ⟨d1, rfl, Nq_4, e_4, q_4_0⟩ := hQ_4
  have N_4 := Fr.app N_3 Nq_4
  refine own_via st_4 ?_
  show own_Go p e below _ (T_4.setTop (mkF m 28 #[.val (.long q1), .second, .val (.long q2), .second, .val (.long q3), .second, .val (.int p4), .val (.int c0), .val (.int c1), .val (.int d0), .unset, .unset, .unset, .unset, .unset, .unset, .unset, .unset, .unset, .unset, .unset, .unset, .unset, .unset] [(.int d1)]))
  have hd1 := q_4_0
  refine own_via (fun _ => XS.istore X_4.here hx rfl (hb hby at_28) rfl (l' := #[.val (.long q1), .second, .val (.long q2), .second, .val (.long q3), .second, .val (.int p4), .val (.int c0), .val (.int c1), .val (.int d0), .val (.int d1), .unset, .unset, .unset, .unset, .unset, .unset, .unset, .unset, .unset, .unset, .unset, .unset, .unset]) rfl) ?_
  show own_Go p e below _ (T_4.setTop (mkF m 30 #[.val (.long q1), .second, .val (.long q2), .second, .val (.long q3), .second, .val (.int p4), .val (.int c0), .val (.int c1), .val (.int d0), .val (.int d1), .unset, .unset, .unset, .unset, .unset, .unset, .unset, .unset, .unset, .unset, .unset, .unset, .unset] []))
  refine own_via (fun _ => XS.lloadN X_4.here hx rfl (hb hby at_30) rfl) ?_
  show own_Go p e below _ (T_4.setTop (mkF m 31 #[.val (.long q1), .second, .val (.long q2), .second, .val (.long q3), .second, .val (.int p4), .val (.int c0), .val (.int c1), .val (.int d0), .val (.int d1), .unset, .unset, .unset, .unset, .unset, .unset, .unset, .unset, .unset, .unset, .unset, .unset, .unset] [(.long q2)]))
  refine own_bipush X_4 hx (hb hby at_31) (q := 33) (z := (21 : Int32)) rfl rfl ?_
  refine own_via (fun _ => XS.lushr X_4.here hx rfl (hb hby at_33) rfl) ?_
  show own_Go p e below _ (T_4.setTop (mkF m 34 #[.val (.long q1), .second, .val (.long q2), .second, .val (.long q3), .second, .val (.int p4), .val (.int c0), .val (.int c1), .val (.int d0), .val (.int d1), .unset, .unset, .unset, .unset, .unset, .unset, .unset, .unset, .unset, .unset, .unset, .unset, .unset] [(.long ((q2.toUInt64 >>> ((21 : Int32) &&& 0x3f).toInt64.toUInt64).toInt64))]))
  obtain ⟨_, _, ⟨T_5, L_5, k_5, n_5⟩, -, X_5, ⟨Lc_5, hQ_5, l_5, y_5, z_5⟩, st_5⟩ := Jvm.LawKit.callS X_4 hx (y := (⟨"com/example/tender/tender/mailbox/MailAbstractOfPinLaw", "mk", "(J)C"⟩ : MethodName)) hown (mvT hZ (own_w hw 0 rfl)) (mvT hZ (own_w hw 1 rfl)) (mvT hZ (own_w hw 2 rfl)) (mvT hZ (own_w hw 3 rfl)) (by decide) (backOf (W := 0) (rmmk l Z a0 hw [] ((q2.toUInt64 >>> ((21 : Int32) &&& 0x3f).toInt64.toUInt64).toInt64) h0 n0 Z0 ) hZ (own_w hw 3 rfl) (own_w hw 2 rfl) (by decide) (by decide)) (g := (mkF m 34 #[.val (.long q1), .second, .val (.long q2), .second, .val (.long q3), .second, .val (.int p4), .val (.int c0), .val (.int c1), .val (.int d0), .val (.int d1), .unset, .unset, .unset, .unset, .unset, .unset, .unset, .unset, .unset, .unset, .unset, .unset, .unset] [(.long ((q2.toUInt64 >>> ((21 : Int32) &&& 0x3f).toInt64.toUInt64).toInt64))])) rfl (by rw [hml]; rfl) (argsL := [(.long ((q2.toUInt64 >>> ((21 : Int32) &&& 0x3f).toInt64.toUInt64).toInt64))]) (rest := []) (lenOf pd_30 rfl) rfl (by show 2 * 0 + _ ≤ _; exact Nat.le_of_eq rfl) (hb hby at_34) (fun _ _ => ⟨rfl, e_4, (by decide : 0 + 0 ≤ _), (by decide : 0 + 0 ≤ _)⟩)
  dsimp only [Pt.U, Pt.locs, Pt.cells, Pt.slots] at X_5 l_5 y_5 z_5 st_5 hQ_5
  subst l_5 y_5 z_5
  obtain ⟨d2, rfl, Nq_5, e_5, q_5_0⟩ := hQ_5
  have N_5 := Fr.app N_4 Nq_5
  refine own_via st_5 ?_
  show own_Go p e below _ (T_5.setTop (mkF m 37 #[.val (.long q1), .second, .val (.long q2), .second, .val (.long q3), .second, .val (.int p4), .val (.int c0), .val (.int c1), .val (.int d0), .val (.int d1), .unset, .unset, .unset, .unset, .unset, .unset, .unset, .unset, .unset, .unset, .unset, .unset, .unset] [(.int d2)]))
  have hd2 := q_5_0
  refine own_via (fun _ => XS.istore X_5.here hx rfl (hb hby at_37) rfl (l' := #[.val (.long q1), .second, .val (.long q2), .second, .val (.long q3), .second, .val (.int p4), .val (.int c0), .val (.int c1), .val (.int d0), .val (.int d1), .val (.int d2), .unset, .unset, .unset, .unset, .unset, .unset, .unset, .unset, .unset, .unset, .unset, .unset]) rfl) ?_
  show own_Go p e below _ (T_5.setTop (mkF m 39 #[.val (.long q1), .second, .val (.long q2), .second, .val (.long q3), .second, .val (.int p4), .val (.int c0), .val (.int c1), .val (.int d0), .val (.int d1), .val (.int d2), .unset, .unset, .unset, .unset, .unset, .unset, .unset, .unset, .unset, .unset, .unset, .unset] []))
  refine own_via (fun _ => XS.lloadN X_5.here hx rfl (hb hby at_39) rfl) ?_
  show own_Go p e below _ (T_5.setTop (mkF m 40 #[.val (.long q1), .second, .val (.long q2), .second, .val (.long q3), .second, .val (.int p4), .val (.int c0), .val (.int c1), .val (.int d0), .val (.int d1), .val (.int d2), .unset, .unset, .unset, .unset, .unset, .unset, .unset, .unset, .unset, .unset, .unset, .unset] [(.long q2)]))
  refine own_bipush X_5 hx (hb hby at_40) (q := 42) (z := (42 : Int32)) rfl rfl ?_
  refine own_via (fun _ => XS.lushr X_5.here hx rfl (hb hby at_42) rfl) ?_
  show own_Go p e below _ (T_5.setTop (mkF m 43 #[.val (.long q1), .second, .val (.long q2), .second, .val (.long q3), .second, .val (.int p4), .val (.int c0), .val (.int c1), .val (.int d0), .val (.int d1), .val (.int d2), .unset, .unset, .unset, .unset, .unset, .unset, .unset, .unset, .unset, .unset, .unset, .unset] [(.long ((q2.toUInt64 >>> ((42 : Int32) &&& 0x3f).toInt64.toUInt64).toInt64))]))
  obtain ⟨_, _, ⟨T_6, L_6, k_6, n_6⟩, -, X_6, ⟨Lc_6, hQ_6, l_6, y_6, z_6⟩, st_6⟩ := Jvm.LawKit.callS X_5 hx (y := (⟨"com/example/tender/tender/mailbox/MailAbstractOfPinLaw", "mk", "(J)C"⟩ : MethodName)) hown (mvT hZ (own_w hw 0 rfl)) (mvT hZ (own_w hw 1 rfl)) (mvT hZ (own_w hw 2 rfl)) (mvT hZ (own_w hw 3 rfl)) (by decide) (backOf (W := 0) (rmmk l Z a0 hw [] ((q2.toUInt64 >>> ((42 : Int32) &&& 0x3f).toInt64.toUInt64).toInt64) h0 n0 Z0 ) hZ (own_w hw 3 rfl) (own_w hw 2 rfl) (by decide) (by decide)) (g := (mkF m 43 #[.val (.long q1), .second, .val (.long q2), .second, .val (.long q3), .second, .val (.int p4), .val (.int c0), .val (.int c1), .val (.int d0), .val (.int d1), .val (.int d2), .unset, .unset, .unset, .unset, .unset, .unset, .unset, .unset, .unset, .unset, .unset, .unset] [(.long ((q2.toUInt64 >>> ((42 : Int32) &&& 0x3f).toInt64.toUInt64).toInt64))])) rfl (by rw [hml]; rfl) (argsL := [(.long ((q2.toUInt64 >>> ((42 : Int32) &&& 0x3f).toInt64.toUInt64).toInt64))]) (rest := []) (lenOf pd_30 rfl) rfl (by show 2 * 0 + _ ≤ _; exact Nat.le_of_eq rfl) (hb hby at_43) (fun _ _ => ⟨rfl, e_5, (by decide : 0 + 0 ≤ _), (by decide : 0 + 0 ≤ _)⟩)
  dsimp only [Pt.U, Pt.locs, Pt.cells, Pt.slots] at X_6 l_6 y_6 z_6 st_6 hQ_6
  subst l_6 y_6 z_6
  obtain ⟨d3, rfl, Nq_6, e_6, q_6_0⟩ := hQ_6
  have N_6 := Fr.app N_5 Nq_6
  refine own_via st_6 ?_
  show own_Go p e below _ (T_6.setTop (mkF m 46 #[.val (.long q1), .second, .val (.long q2), .second, .val (.long q3), .second, .val (.int p4), .val (.int c0), .val (.int c1), .val (.int d0), .val (.int d1), .val (.int d2), .unset, .unset, .unset, .unset, .unset, .unset, .unset, .unset, .unset, .unset, .unset, .unset] [(.int d3)]))
  have hd3 := q_6_0
  refine own_via (fun _ => XS.istore X_6.here hx rfl (hb hby at_46) rfl (l' := #[.val (.long q1), .second, .val (.long q2), .second, .val (.long q3), .second, .val (.int p4), .val (.int c0), .val (.int c1), .val (.int d0), .val (.int d1), .val (.int d2), .val (.int d3), .unset, .unset, .unset, .unset, .unset, .unset, .unset, .unset, .unset, .unset, .unset]) rfl) ?_
  show own_Go p e below _ (T_6.setTop (mkF m 48 #[.val (.long q1), .second, .val (.long q2), .second, .val (.long q3), .second, .val (.int p4), .val (.int c0), .val (.int c1), .val (.int d0), .val (.int d1), .val (.int d2), .val (.int d3), .unset, .unset, .unset, .unset, .unset, .unset, .unset, .unset, .unset, .unset, .unset] []))
  refine own_via (fun _ => XS.lload X_6.here hx rfl (hb hby at_48) rfl) ?_
  show own_Go p e below _ (T_6.setTop (mkF m 50 #[.val (.long q1), .second, .val (.long q2), .second, .val (.long q3), .second, .val (.int p4), .val (.int c0), .val (.int c1), .val (.int d0), .val (.int d1), .val (.int d2), .val (.int d3), .unset, .unset, .unset, .unset, .unset, .unset, .unset, .unset, .unset, .unset, .unset] [(.long q3)]))
  obtain ⟨_, _, ⟨T_7, L_7, k_7, n_7⟩, -, X_7, ⟨Lc_7, hQ_7, l_7, y_7, z_7⟩, st_7⟩ := Jvm.LawKit.callS X_6 hx (y := (⟨"com/example/tender/tender/mailbox/MailAbstractOfPinLaw", "mk", "(J)C"⟩ : MethodName)) hown (mvT hZ (own_w hw 0 rfl)) (mvT hZ (own_w hw 1 rfl)) (mvT hZ (own_w hw 2 rfl)) (mvT hZ (own_w hw 3 rfl)) (by decide) (backOf (W := 0) (rmmk l Z a0 hw [] q3 h0 n0 Z0 ) hZ (own_w hw 3 rfl) (own_w hw 2 rfl) (by decide) (by decide)) (g := (mkF m 50 #[.val (.long q1), .second, .val (.long q2), .second, .val (.long q3), .second, .val (.int p4), .val (.int c0), .val (.int c1), .val (.int d0), .val (.int d1), .val (.int d2), .val (.int d3), .unset, .unset, .unset, .unset, .unset, .unset, .unset, .unset, .unset, .unset, .unset] [(.long q3)])) rfl (by rw [hml]; rfl) (argsL := [(.long q3)]) (rest := []) (lenOf pd_30 rfl) rfl (by show 2 * 0 + _ ≤ _; exact Nat.le_of_eq rfl) (hb hby at_50) (fun _ _ => ⟨rfl, e_6, (by decide : 0 + 0 ≤ _), (by decide : 0 + 0 ≤ _)⟩)
  dsimp only [Pt.U, Pt.locs, Pt.cells, Pt.slots] at X_7 l_7 y_7 z_7 st_7 hQ_7
  subst l_7 y_7 z_7
  obtain ⟨d4, rfl, Nq_7, e_7, q_7_0⟩ := hQ_7
  have N_7 := Fr.app N_6 Nq_7
  refine own_via st_7 ?_
  show own_Go p e below _ (T_7.setTop (mkF m 53 #[.val (.long q1), .second, .val (.long q2), .second, .val (.long q3), .second, .val (.int p4), .val (.int c0), .val (.int c1), .val (.int d0), .val (.int d1), .val (.int d2), .val (.int d3), .unset, .unset, .unset, .unset, .unset, .unset, .unset, .unset, .unset, .unset, .unset] [(.int d4)]))
  have hd4 := q_7_0
  refine own_via (fun _ => XS.istore X_7.here hx rfl (hb hby at_53) rfl (l' := #[.val (.long q1), .second, .val (.long q2), .second, .val (.long q3), .second, .val (.int p4), .val (.int c0), .val (.int c1), .val (.int d0), .val (.int d1), .val (.int d2), .val (.int d3), .val (.int d4), .unset, .unset, .unset, .unset, .unset, .unset, .unset, .unset, .unset, .unset]) rfl) ?_
  show own_Go p e below _ (T_7.setTop (mkF m 55 #[.val (.long q1), .second, .val (.long q2), .second, .val (.long q3), .second, .val (.int p4), .val (.int c0), .val (.int c1), .val (.int d0), .val (.int d1), .val (.int d2), .val (.int d3), .val (.int d4), .unset, .unset, .unset, .unset, .unset, .unset, .unset, .unset, .unset, .unset] []))
  refine own_via (fun _ => XS.lload X_7.here hx rfl (hb hby at_55) rfl) ?_
  show own_Go p e below _ (T_7.setTop (mkF m 57 #[.val (.long q1), .second, .val (.long q2), .second, .val (.long q3), .second, .val (.int p4), .val (.int c0), .val (.int c1), .val (.int d0), .val (.int d1), .val (.int d2), .val (.int d3), .val (.int d4), .unset, .unset, .unset, .unset, .unset, .unset, .unset, .unset, .unset, .unset] [(.long q3)]))
  refine own_bipush X_7 hx (hb hby at_57) (q := 59) (z := (21 : Int32)) rfl rfl ?_
  refine own_via (fun _ => XS.lushr X_7.here hx rfl (hb hby at_59) rfl) ?_
  show own_Go p e below _ (T_7.setTop (mkF m 60 #[.val (.long q1), .second, .val (.long q2), .second, .val (.long q3), .second, .val (.int p4), .val (.int c0), .val (.int c1), .val (.int d0), .val (.int d1), .val (.int d2), .val (.int d3), .val (.int d4), .unset, .unset, .unset, .unset, .unset, .unset, .unset, .unset, .unset, .unset] [(.long ((q3.toUInt64 >>> ((21 : Int32) &&& 0x3f).toInt64.toUInt64).toInt64))]))
  obtain ⟨_, _, ⟨T_8, L_8, k_8, n_8⟩, -, X_8, ⟨Lc_8, hQ_8, l_8, y_8, z_8⟩, st_8⟩ := Jvm.LawKit.callS X_7 hx (y := (⟨"com/example/tender/tender/mailbox/MailAbstractOfPinLaw", "mk", "(J)C"⟩ : MethodName)) hown (mvT hZ (own_w hw 0 rfl)) (mvT hZ (own_w hw 1 rfl)) (mvT hZ (own_w hw 2 rfl)) (mvT hZ (own_w hw 3 rfl)) (by decide) (backOf (W := 0) (rmmk l Z a0 hw [] ((q3.toUInt64 >>> ((21 : Int32) &&& 0x3f).toInt64.toUInt64).toInt64) h0 n0 Z0 ) hZ (own_w hw 3 rfl) (own_w hw 2 rfl) (by decide) (by decide)) (g := (mkF m 60 #[.val (.long q1), .second, .val (.long q2), .second, .val (.long q3), .second, .val (.int p4), .val (.int c0), .val (.int c1), .val (.int d0), .val (.int d1), .val (.int d2), .val (.int d3), .val (.int d4), .unset, .unset, .unset, .unset, .unset, .unset, .unset, .unset, .unset, .unset] [(.long ((q3.toUInt64 >>> ((21 : Int32) &&& 0x3f).toInt64.toUInt64).toInt64))])) rfl (by rw [hml]; rfl) (argsL := [(.long ((q3.toUInt64 >>> ((21 : Int32) &&& 0x3f).toInt64.toUInt64).toInt64))]) (rest := []) (lenOf pd_30 rfl) rfl (by show 2 * 0 + _ ≤ _; exact Nat.le_of_eq rfl) (hb hby at_60) (fun _ _ => ⟨rfl, e_7, (by decide : 0 + 0 ≤ _), (by decide : 0 + 0 ≤ _)⟩)
  dsimp only [Pt.U, Pt.locs, Pt.cells, Pt.slots] at X_8 l_8 y_8 z_8 st_8 hQ_8
  subst l_8 y_8 z_8
  obtain ⟨d5, rfl, Nq_8, e_8, q_8_0⟩ := hQ_8
  have N_8 := Fr.app N_7 Nq_8
  refine own_via st_8 ?_
  show own_Go p e below _ (T_8.setTop (mkF m 63 #[.val (.long q1), .second, .val (.long q2), .second, .val (.long q3), .second, .val (.int p4), .val (.int c0), .val (.int c1), .val (.int d0), .val (.int d1), .val (.int d2), .val (.int d3), .val (.int d4), .unset, .unset, .unset, .unset, .unset, .unset, .unset, .unset, .unset, .unset] [(.int d5)]))
  have hd5 := q_8_0
  refine own_via (fun _ => XS.istore X_8.here hx rfl (hb hby at_63) rfl (l' := #[.val (.long q1), .second, .val (.long q2), .second, .val (.long q3), .second, .val (.int p4), .val (.int c0), .val (.int c1), .val (.int d0), .val (.int d1), .val (.int d2), .val (.int d3), .val (.int d4), .val (.int d5), .unset, .unset, .unset, .unset, .unset, .unset, .unset, .unset, .unset]) rfl) ?_
  show own_Go p e below _ (T_8.setTop (mkF m 65 #[.val (.long q1), .second, .val (.long q2), .second, .val (.long q3), .second, .val (.int p4), .val (.int c0), .val (.int c1), .val (.int d0), .val (.int d1), .val (.int d2), .val (.int d3), .val (.int d4), .val (.int d5), .unset, .unset, .unset, .unset, .unset, .unset, .unset, .unset, .unset] []))
  refine own_iload X_8 hx (hb hby at_65) (q := 67) rfl rfl ?_
  refine own_iconst X_8 hx (hb hby at_67) (q := 68) (z := (3 : Int32)) rfl rfl ?_
  refine own_via (fun _ => XS.iand X_8.here hx rfl (hb hby at_68) rfl) ?_
  show own_Go p e below _ (T_8.setTop (mkF m 69 #[.val (.long q1), .second, .val (.long q2), .second, .val (.long q3), .second, .val (.int p4), .val (.int c0), .val (.int c1), .val (.int d0), .val (.int d1), .val (.int d2), .val (.int d3), .val (.int d4), .val (.int d5), .unset, .unset, .unset, .unset, .unset, .unset, .unset, .unset, .unset] [(.int (p4 &&& (3 : Int32)))]))
  refine own_via (fun _ => XS.istore X_8.here hx rfl (hb hby at_69) rfl (l' := #[.val (.long q1), .second, .val (.long q2), .second, .val (.long q3), .second, .val (.int p4), .val (.int c0), .val (.int c1), .val (.int d0), .val (.int d1), .val (.int d2), .val (.int d3), .val (.int d4), .val (.int d5), .val (.int (p4 &&& (3 : Int32))), .unset, .unset, .unset, .unset, .unset, .unset, .unset, .unset]) rfl) ?_
  show own_Go p e below _ (T_8.setTop (mkF m 71 #[.val (.long q1), .second, .val (.long q2), .second, .val (.long q3), .second, .val (.int p4), .val (.int c0), .val (.int c1), .val (.int d0), .val (.int d1), .val (.int d2), .val (.int d3), .val (.int d4), .val (.int d5), .val (.int (p4 &&& (3 : Int32))), .unset, .unset, .unset, .unset, .unset, .unset, .unset, .unset] []))
  refine own_iload X_8 hx (hb hby at_71) (q := 73) rfl rfl ?_
  by_cases hm0 : (p4 &&& (3 : Int32)) = (0 : Int32)
  · refine own_via (fun _ => XS.ifNo X_8.here hx rfl (hb hby at_73) rfl ((if0 _ _).trans (teq (hm0 : (p4 &&& (3 : Int32)) = (0 : Int32))).2)) ?_
    show own_Go p e below _ (T_8.setTop (mkF m 76 #[.val (.long q1), .second, .val (.long q2), .second, .val (.long q3), .second, .val (.int p4), .val (.int c0), .val (.int c1), .val (.int d0), .val (.int d1), .val (.int d2), .val (.int d3), .val (.int d4), .val (.int d5), .val (.int (p4 &&& (3 : Int32))), .unset, .unset, .unset, .unset, .unset, .unset, .unset, .unset] []))
    obtain ⟨a_9, T_9, h_9, k_9, b_9, kk_9, X_9, e_9, E_9, hS_9, hk_9, hZ_9, ho_9, LE_9, LC_9, LV_9, LA_9, la_9, lb_9, CH_9, L_9, sf_9, st_9⟩ := ldcCH X_8 hx hZ hown (own_w hw 202 rfl) (own_wS hw) e_8 hS0 (Nat.zero_le _) (own_EW hw) (by decide) J0 (vs := ((([] : List Int32).map fun c => c.toInt8.toInt32).map Value.int)) (z := Int32.ofNat 0) ⟨by decide, by decide +kernel⟩ (by decide) rfl (g := (mkF m 76 #[.val (.long q1), .second, .val (.long q2), .second, .val (.long q3), .second, .val (.int p4), .val (.int c0), .val (.int c1), .val (.int d0), .val (.int d1), .val (.int d2), .val (.int d3), .val (.int d4), .val (.int d5), .val (.int (p4 &&& (3 : Int32))), .unset, .unset, .unset, .unset, .unset, .unset, .unset, .unset] [])) rfl (hb hby at_76) (n := 0) (by decide) (by decide) (by decide) (by decide)
    have J_9 := CH_9.1
    refine own_via st_9 ?_
    show own_Go p e below _ (T_9.setTop (mkF m 78 #[.val (.long q1), .second, .val (.long q2), .second, .val (.long q3), .second, .val (.int p4), .val (.int c0), .val (.int c1), .val (.int d0), .val (.int d1), .val (.int d2), .val (.int d3), .val (.int d4), .val (.int d5), .val (.int (p4 &&& (3 : Int32))), .unset, .unset, .unset, .unset, .unset, .unset, .unset, .unset] [(.ref a_9)]))
    have SS_10 : own_S Z h_9 a_9 ([] : List Int32) := ⟨LE_9, ⟨b_9, kk_9, _, _, _, LC_9, LV_9, LA_9, Or.inl ⟨rfl, rfl, rfl, fun c hc => by simp at hc⟩⟩, fun c hc => by simp at hc, by decide⟩
    have K_11 : Keep h0 h_9 [] := (Keep.refl h0 []).ext E_9
    obtain ⟨_, _, ⟨T_12, L_12, k_12, n_12⟩, -, X_12, ⟨Lc_12, hQ_12, l_12, y_12, z_12⟩, st_12⟩ := Jvm.LawKit.callS X_9 hx (y := (⟨"com/example/tender/tender/mailbox/MailAbstract", "of", "(Ljava/lang/String;)Ljava/lang/String;"⟩ : MethodName)) ho_9 (mvT hZ_9 (own_w hw 70 rfl)) (mvT hZ_9 (own_w hw 71 rfl)) (mvT hZ_9 (own_w hw 72 rfl)) (mvT hZ_9 (own_w hw 73 rfl)) (by decide) (backOf (W := 0) (rmof l Z a0 hw [] a_9 ([] : List Int32) cz sf h_9 n0 (Nat.le_trans Z0 K_11.1) (O0.keep K_11 all0) Sad Shi Slo Scs hcs Ssf hsf SS_10) hZ_9 (own_w hw 73 rfl) (own_w hw 72 rfl) (by decide) (by decide)) (g := (mkF m 78 #[.val (.long q1), .second, .val (.long q2), .second, .val (.long q3), .second, .val (.int p4), .val (.int c0), .val (.int c1), .val (.int d0), .val (.int d1), .val (.int d2), .val (.int d3), .val (.int d4), .val (.int d5), .val (.int (p4 &&& (3 : Int32))), .unset, .unset, .unset, .unset, .unset, .unset, .unset, .unset] [(.ref a_9)])) rfl (by rw [hml]; rfl) (argsL := [(.ref a_9)]) (rest := []) (lenOf pd_31 rfl) rfl (by show 2 * 0 + _ ≤ _; exact Nat.le_of_eq rfl) (hb hby at_78) (fun _ _ => ⟨rfl, e_9, (by decide : 2 + 3 ≤ _), (by decide : 4 + 313 ≤ _)⟩)
    dsimp only [Pt.U, Pt.locs, Pt.cells, Pt.slots] at X_12 l_12 y_12 z_12 st_12 hQ_12
    subst l_12 y_12 z_12
    obtain ⟨r_13, rfl, Nq_12, K_12q, q_12_0⟩ := hQ_12
    have N_12 := Fr.app N_8 Nq_12
    refine own_via st_12 ?_
    show own_Go p e below _ (T_12.setTop (mkF m 81 #[.val (.long q1), .second, .val (.long q2), .second, .val (.long q3), .second, .val (.int p4), .val (.int c0), .val (.int c1), .val (.int d0), .val (.int d1), .val (.int d2), .val (.int d3), .val (.int d4), .val (.int d5), .val (.int (p4 &&& (3 : Int32))), .unset, .unset, .unset, .unset, .unset, .unset, .unset, .unset] [(.ref r_13)]))
    refine own_via (ldcAgain X_12 hx hZ_9 ho_9 (own_w hw 202 rfl) L_9 (g := (mkF m 81 #[.val (.long q1), .second, .val (.long q2), .second, .val (.long q3), .second, .val (.int p4), .val (.int c0), .val (.int c1), .val (.int d0), .val (.int d1), .val (.int d2), .val (.int d3), .val (.int d4), .val (.int d5), .val (.int (p4 &&& (3 : Int32))), .unset, .unset, .unset, .unset, .unset, .unset, .unset, .unset] [(.ref r_13)])) rfl (hb hby at_81)) ?_
    show own_Go p e below _ (T_12.setTop (mkF m 83 #[.val (.long q1), .second, .val (.long q2), .second, .val (.long q3), .second, .val (.int p4), .val (.int c0), .val (.int c1), .val (.int d0), .val (.int d1), .val (.int d2), .val (.int d3), .val (.int d4), .val (.int d5), .val (.int (p4 &&& (3 : Int32))), .unset, .unset, .unset, .unset, .unset, .unset, .unset, .unset] [(.ref a_9), (.ref r_13)]))
    have K_15 : Keep h0 T_12.heap [] := Keep.trans (ws := []) K_11 K_12q all0
    have K_16 : Keep h_9 T_12.heap [] := Keep.trans (ws := []) (Keep.refl h_9 []) K_12q all0
    obtain ⟨E_14a, ⟨t_14a, k_14a, cd_14a, N_14a, vs_14a, C_14a, V_14a, K_14a, hC_14a⟩, p_14a, l_14a⟩ := q_12_0
    obtain ⟨E_14b, ⟨t_14b, k_14b, cd_14b, N_14b, vs_14b, C_14b, V_14b, K_14b, hC_14b⟩, p_14b, l_14b⟩ := (SS_10.keep0 K_16)
    obtain ⟨cq_17, kq_17, q_17a, q_17b, q_17c⟩ := isOf hZ_9 rfl E_14a
    obtain ⟨_, _, ⟨T_17, L_17, k_17, n_17⟩, -, X_17, ⟨Lc_17, hQ_17, l_17, y_17, z_17⟩, st_17⟩ := X_12.virtualBack hx (y := (⟨"java/lang/String", "equals", "(Ljava/lang/Object;)Z"⟩ : MethodName)) (z := (⟨"java/lang/String", "equals", "(Ljava/lang/Object;)Z"⟩ : MethodName)) ho_9 (mvT hZ_9 (own_w hw 192 rfl)) (mvT hZ_9 (own_w hw 193 rfl)) (notFace_of_selects (args := #[]) (mvT hZ_9 (own_w hw 195 rfl))) (mvT hZ_9 (own_w hw 195 rfl)) (mvT hZ_9 (own_w hw 194 rfl)) (by decide) (StrChars.Road.eqW (W := 0) hZ_9 (own_hwordsEq hw) (kI := 4) (own_w hw 23 rfl) E_14a V_14a C_14a K_14a hC_14a p_14a (by omega) E_14b V_14b C_14b K_14b hC_14b p_14b (by omega) (Scs.ext (O0.keep K_15 all0).2) hcs (by decide) (by decide)) q_17a q_17c (g := (mkF m 83 #[.val (.long q1), .second, .val (.long q2), .second, .val (.long q3), .second, .val (.int p4), .val (.int c0), .val (.int c1), .val (.int d0), .val (.int d1), .val (.int d2), .val (.int d3), .val (.int d4), .val (.int d5), .val (.int (p4 &&& (3 : Int32))), .unset, .unset, .unset, .unset, .unset, .unset, .unset, .unset] [(.ref a_9), (.ref r_13)])) rfl (by rw [hml]; rfl) (Steps.refl _) (argsL := [(.ref a_9)]) (rest := []) (lenOf pd_32 rfl) rfl (by show 2 * 0 + _ ≤ _; exact Nat.le_of_eq rfl) (hb hby at_83) (fun _ _ => ⟨rfl, rfl, (by decide : 5 + 0 ≤ _), (by decide : 317 + 0 ≤ _)⟩)
    dsimp only [Pt.U, Pt.locs, Pt.cells, Pt.slots] at X_17 l_17 y_17 z_17 st_17 hQ_17
    subst l_17 y_17 z_17
    obtain ⟨hv_17, rfl, e_17⟩ := hQ_17
    have N_17 := Fr.app N_12 (Fr.nil n0)
    rcases hv_17 with ⟨rfl, hq_17⟩ | ⟨rfl, hq_17⟩
    · refine own_via (fun _ k => st_17.trans k) ?_
      show own_Go p e below _ (T_17.setTop (mkF m 86 #[.val (.long q1), .second, .val (.long q2), .second, .val (.long q3), .second, .val (.int p4), .val (.int c0), .val (.int c1), .val (.int d0), .val (.int d1), .val (.int d2), .val (.int d3), .val (.int d4), .val (.int d5), .val (.int (p4 &&& (3 : Int32))), .unset, .unset, .unset, .unset, .unset, .unset, .unset, .unset] [(.int (1 : Int32))]))
      exact own_retvW X_17 hS_9 (by rw [e_17]; exact (Nat.le_trans hk_9 K_16.1)) Bd.notSynchronized hx Bd.returns rfl (Or.inl ⟨rfl, (by simp), _, rfl⟩) (hb hby at_86) (by decide) (by decide) (by rw [e_17]; exact ⟨rfl, N_17, K_15⟩)
    · exact absurd (List.take_nil) hq_17
  · refine own_via (fun _ => XS.ifYes X_8.here hx rfl (pc0 := 73) (pc' := 87) rfl (hb hby at_73) rfl ((if0 _ _).trans (feq (hm0 : ¬ ((p4 &&& (3 : Int32)) = (0 : Int32)))).2) (by decide) (by decide)) ?_
    show own_Go p e below _ (T_8.setTop (mkF m 87 #[.val (.long q1), .second, .val (.long q2), .second, .val (.long q3), .second, .val (.int p4), .val (.int c0), .val (.int c1), .val (.int d0), .val (.int d1), .val (.int d2), .val (.int d3), .val (.int d4), .val (.int d5), .val (.int (p4 &&& (3 : Int32))), .unset, .unset, .unset, .unset, .unset, .unset, .unset, .unset] []))
    refine own_iload X_8 hx (hb hby at_87) (q := 89) rfl rfl ?_
    refine own_iconst X_8 hx (hb hby at_89) (q := 90) (z := (1 : Int32)) rfl rfl ?_
    by_cases h1 : (p4 &&& (3 : Int32)) = (1 : Int32)
    · refine own_via (fun _ => XS.icmpNo X_8.here hx rfl (hb hby at_90) rfl (teq (h1 : (p4 &&& (3 : Int32)) = (1 : Int32))).2) ?_
      show own_Go p e below _ (T_8.setTop (mkF m 93 #[.val (.long q1), .second, .val (.long q2), .second, .val (.long q3), .second, .val (.int p4), .val (.int c0), .val (.int c1), .val (.int d0), .val (.int d1), .val (.int d2), .val (.int d3), .val (.int d4), .val (.int d5), .val (.int (p4 &&& (3 : Int32))), .unset, .unset, .unset, .unset, .unset, .unset, .unset, .unset] []))
      refine own_iconst X_8 hx (hb hby at_93) (q := 94) (z := (3 : Int32)) rfl rfl ?_
      obtain ⟨T_18, h_18, k_18, X_18, e_18, E_18, A_18, st_18⟩ := newP X_8 hx hZ (own_w hw 8 rfl) e_8 (g := (mkF m 94 #[.val (.long q1), .second, .val (.long q2), .second, .val (.long q3), .second, .val (.int p4), .val (.int c0), .val (.int c1), .val (.int d0), .val (.int d1), .val (.int d2), .val (.int d3), .val (.int d4), .val (.int d5), .val (.int (p4 &&& (3 : Int32))), .unset, .unset, .unset, .unset, .unset, .unset, .unset, .unset] [(.int (3 : Int32))])) rfl (hb hby at_94) rfl (by decide) (cap := 3) (by decide) (by decide) (by decide) (by decide)
      obtain ⟨b_18, g_18⟩ : ∃ z, z = h0.size := ⟨_, rfl⟩
      rw [← g_18] at A_18 st_18
      have V_18 : Arv Z h_18 b_18 k_18 .char (3 : Int32) [(.int (0 : Int32)), (.int (0 : Int32)), (.int (0 : Int32))] (.int (0 : Int32)) := (Arv.new A_18 (by decide)).pad (pad_rep [] (.int (0 : Int32)) 3)
      refine own_via st_18 ?_
      show own_Go p e below _ (T_18.setTop (mkF m 96 #[.val (.long q1), .second, .val (.long q2), .second, .val (.long q3), .second, .val (.int p4), .val (.int c0), .val (.int c1), .val (.int d0), .val (.int d1), .val (.int d2), .val (.int d3), .val (.int d4), .val (.int d5), .val (.int (p4 &&& (3 : Int32))), .unset, .unset, .unset, .unset, .unset, .unset, .unset, .unset] [(.ref b_18)]))
      refine own_dup X_18 hx (hb hby at_96) (q := 97) rfl rfl ?_
      refine own_iconst X_18 hx (hb hby at_97) (q := 98) (z := (0 : Int32)) rfl rfl ?_
      refine own_iload X_18 hx (hb hby at_98) (q := 100) rfl rfl ?_
      obtain ⟨cl_19, Ar_19, q_19, S_19, M_19, H_19, G_19⟩ := (id V_18)
      obtain ⟨T_19, h_19, X_19, e_19, W_19, st_19⟩ := stC X_18 hx hZ e_18 Ar_19 (j := (0 : Int32)) (inb_of S_19 ⟨by decide, by decide⟩) (g := (mkF m 100 #[.val (.long q1), .second, .val (.long q2), .second, .val (.long q3), .second, .val (.int p4), .val (.int c0), .val (.int c1), .val (.int d0), .val (.int d1), .val (.int d2), .val (.int d3), .val (.int d4), .val (.int d5), .val (.int (p4 &&& (3 : Int32))), .unset, .unset, .unset, .unset, .unset, .unset, .unset, .unset] [(.int c0), (.int (0 : Int32)), (.ref b_18), (.ref b_18)])) rfl rfl (hb hby at_100)
      have V_19 : Arv Z h_19 b_18 k_18 .char (3 : Int32) [(.int (nar .char c0)), (.int (0 : Int32)), (.int (0 : Int32))] (.int (0 : Int32)) := Arv.set Ar_19 q_19 S_19 M_19 H_19 G_19 (fits_nar_char _) W_19 0 rfl (Nat.le_of_ble_eq_true rfl)
      have N_19 := Fr.snoc X_19 N_8 (Nat.le_trans Z0 (Nat.le_of_eq g_18.symm))
      refine own_via st_19 ?_
      show own_Go p e below _ (T_19.setTop (mkF m 101 #[.val (.long q1), .second, .val (.long q2), .second, .val (.long q3), .second, .val (.int p4), .val (.int c0), .val (.int c1), .val (.int d0), .val (.int d1), .val (.int d2), .val (.int d3), .val (.int d4), .val (.int d5), .val (.int (p4 &&& (3 : Int32))), .unset, .unset, .unset, .unset, .unset, .unset, .unset, .unset] [(.ref b_18)]))
      refine own_dup X_19 hx (hb hby at_101) (q := 102) rfl rfl ?_
      refine own_iconst X_19 hx (hb hby at_102) (q := 103) (z := (1 : Int32)) rfl rfl ?_
      refine own_iload X_19 hx (hb hby at_103) (q := 105) rfl rfl ?_
      obtain ⟨cl_20, Ar_20, q_20, S_20, M_20, H_20, G_20⟩ := (id V_19)
      obtain ⟨T_20, h_20, X_20, e_20, W_20, st_20⟩ := stC X_19 hx hZ e_19 Ar_20 (j := (1 : Int32)) (inb_of S_20 ⟨by decide, by decide⟩) (g := (mkF m 105 #[.val (.long q1), .second, .val (.long q2), .second, .val (.long q3), .second, .val (.int p4), .val (.int c0), .val (.int c1), .val (.int d0), .val (.int d1), .val (.int d2), .val (.int d3), .val (.int d4), .val (.int d5), .val (.int (p4 &&& (3 : Int32))), .unset, .unset, .unset, .unset, .unset, .unset, .unset, .unset] [(.int c1), (.int (1 : Int32)), (.ref b_18), (.ref b_18)])) rfl rfl (hb hby at_105)
      have V_20 : Arv Z h_20 b_18 k_18 .char (3 : Int32) [(.int (nar .char c0)), (.int (nar .char c1)), (.int (0 : Int32))] (.int (0 : Int32)) := Arv.set Ar_20 q_20 S_20 M_20 H_20 G_20 (fits_nar_char _) W_20 1 rfl (Nat.le_of_ble_eq_true rfl)
      have N_20 := Fr.snoc X_20 N_19 (Nat.le_trans Z0 (Nat.le_of_eq g_18.symm))
      refine own_via st_20 ?_
      show own_Go p e below _ (T_20.setTop (mkF m 106 #[.val (.long q1), .second, .val (.long q2), .second, .val (.long q3), .second, .val (.int p4), .val (.int c0), .val (.int c1), .val (.int d0), .val (.int d1), .val (.int d2), .val (.int d3), .val (.int d4), .val (.int d5), .val (.int (p4 &&& (3 : Int32))), .unset, .unset, .unset, .unset, .unset, .unset, .unset, .unset] [(.ref b_18)]))
      refine own_dup X_20 hx (hb hby at_106) (q := 107) rfl rfl ?_
      refine own_iconst X_20 hx (hb hby at_107) (q := 108) (z := (2 : Int32)) rfl rfl ?_
      refine own_iload X_20 hx (hb hby at_108) (q := 110) rfl rfl ?_
      obtain ⟨cl_21, Ar_21, q_21, S_21, M_21, H_21, G_21⟩ := (id V_20)
      obtain ⟨T_21, h_21, X_21, e_21, W_21, st_21⟩ := stC X_20 hx hZ e_20 Ar_21 (j := (2 : Int32)) (inb_of S_21 ⟨by decide, by decide⟩) (g := (mkF m 110 #[.val (.long q1), .second, .val (.long q2), .second, .val (.long q3), .second, .val (.int p4), .val (.int c0), .val (.int c1), .val (.int d0), .val (.int d1), .val (.int d2), .val (.int d3), .val (.int d4), .val (.int d5), .val (.int (p4 &&& (3 : Int32))), .unset, .unset, .unset, .unset, .unset, .unset, .unset, .unset] [(.int d0), (.int (2 : Int32)), (.ref b_18), (.ref b_18)])) rfl rfl (hb hby at_110)
      have V_21 : Arv Z h_21 b_18 k_18 .char (3 : Int32) [(.int (nar .char c0)), (.int (nar .char c1)), (.int (nar .char d0))] (.int (0 : Int32)) := Arv.set Ar_21 q_21 S_21 M_21 H_21 G_21 (fits_nar_char _) W_21 2 rfl (Nat.le_of_ble_eq_true rfl)
      have N_21 := Fr.snoc X_21 N_20 (Nat.le_trans Z0 (Nat.le_of_eq g_18.symm))
      refine own_via st_21 ?_
      show own_Go p e below _ (T_21.setTop (mkF m 111 #[.val (.long q1), .second, .val (.long q2), .second, .val (.long q3), .second, .val (.int p4), .val (.int c0), .val (.int c1), .val (.int d0), .val (.int d1), .val (.int d2), .val (.int d3), .val (.int d4), .val (.int d5), .val (.int (p4 &&& (3 : Int32))), .unset, .unset, .unset, .unset, .unset, .unset, .unset, .unset] [(.ref b_18)]))
      have V_22 : Arv Z h_21 b_18 k_18 .char (Int32.ofNat ([c0, c1, d0] : List Int32).length) (([c0, c1, d0] : List Int32).map Value.int) (.int (0 : Int32)) := by have q := V_21; rw [own_nar16 hc0, own_nar16 hc1, own_nar16 hd0] at q; exact q
      have hp : ∀ c ∈ ([c0, c1, d0] : List Int32), ¬ c < 0 ∧ ¬ (65535 : Int32) < c := by intro c hc; simp only [List.mem_cons, List.not_mem_nil, or_false] at hc; rcases hc with rfl | rfl | rfl <;> assumption
      refine own_via (fun _ => XS.astore X_21.here hx rfl (hb hby at_111) rfl rfl (l' := #[.val (.long q1), .second, .val (.long q2), .second, .val (.long q3), .second, .val (.int p4), .val (.int c0), .val (.int c1), .val (.int d0), .val (.int d1), .val (.int d2), .val (.int d3), .val (.int d4), .val (.int d5), .val (.int (p4 &&& (3 : Int32))), .val (.ref b_18), .unset, .unset, .unset, .unset, .unset, .unset, .unset]) rfl) ?_
      show own_Go p e below _ (T_21.setTop (mkF m 113 #[.val (.long q1), .second, .val (.long q2), .second, .val (.long q3), .second, .val (.int p4), .val (.int c0), .val (.int c1), .val (.int d0), .val (.int d1), .val (.int d2), .val (.int d3), .val (.int d4), .val (.int d5), .val (.int (p4 &&& (3 : Int32))), .val (.ref b_18), .unset, .unset, .unset, .unset, .unset, .unset, .unset] []))
      obtain ⟨T_23, h_23, X_23, e_23, E_23, A_23, D_23, -, st_23⟩ := newO X_21 hx hZ hown (own_w hw 22 rfl) (own_w hw 23 rfl) (own_w hw 24 rfl) e_21 (g := (mkF m 113 #[.val (.long q1), .second, .val (.long q2), .second, .val (.long q3), .second, .val (.int p4), .val (.int c0), .val (.int c1), .val (.int d0), .val (.int d1), .val (.int d2), .val (.int d3), .val (.int d4), .val (.int d5), .val (.int (p4 &&& (3 : Int32))), .val (.ref b_18), .unset, .unset, .unset, .unset, .unset, .unset, .unset] [])) rfl (hb hby at_113) (by decide) (by decide)
      obtain ⟨b_23, g_23⟩ : ∃ z, z = h_21.size := ⟨_, rfl⟩
      rw [← g_23] at A_23 D_23 st_23
      have F_24 : Fld Z h_23 b_23 "java/lang/String" "coder" "B" (.int (0 : Int32)) := D_23 (Or.inr (own_w hw 67 rfl)) (ty := .byte) (by decide)
      have F_25 : Fld Z h_23 b_23 "java/lang/String" "value" "[B" .null := D_23 (Or.inr (own_w hw 69 rfl)) (ty := (.array .byte)) (by decide)
      refine own_via st_23 ?_
      show own_Go p e below _ (T_23.setTop (mkF m 116 #[.val (.long q1), .second, .val (.long q2), .second, .val (.long q3), .second, .val (.int p4), .val (.int c0), .val (.int c1), .val (.int d0), .val (.int d1), .val (.int d2), .val (.int d3), .val (.int d4), .val (.int d5), .val (.int (p4 &&& (3 : Int32))), .val (.ref b_18), .unset, .unset, .unset, .unset, .unset, .unset, .unset] [(.ref b_23)]))
      refine own_dup X_23 hx (hb hby at_116) (q := 117) rfl rfl ?_
      refine own_aload X_23 hx (hb hby at_117) (q := 119) rfl rfl rfl ?_
      have K_26 : Keep h_21 h_23 [] := (Keep.refl h_21 []).ext E_23
      have K_27 : Keep h0 h_18 [] := (Keep.refl h0 []).ext E_18
      have K_28 : Keep h0 h_19 [] := Keep.wr (ws := []) K_27 W_19 (Or.inr (Nat.le_of_eq g_18.symm))
      have K_29 : Keep h0 h_20 [] := Keep.wr (ws := []) K_28 W_20 (Or.inr (Nat.le_of_eq g_18.symm))
      have K_30 : Keep h0 h_21 [] := Keep.wr (ws := []) K_29 W_21 (Or.inr (Nat.le_of_eq g_18.symm))
      have K_31 : Keep h0 h_23 [] := K_30.ext E_23
      obtain ⟨_, _, ⟨T_32, L_32, k_32, n_32⟩, -, X_32, ⟨Lc_32, hQ_32, l_32, y_32, z_32⟩, st_32⟩ := X_23.specialBack hx (y := (⟨"java/lang/String", "<init>", "([C)V"⟩ : MethodName)) rfl hown (mvT hZ (own_w hw 25 rfl)) (mvT hZ (own_w hw 26 rfl)) (mvT hZ (own_w hw 27 rfl)) (by decide) (backOf (W := 1) (rmstrC l Z a0 hw [] b_23 b_18 k_18 ([c0, c1, d0] : List Int32) cz h_23 n0 (Nat.le_trans Z0 K_31.1) (O0.keep K_31 all0) Sad Shi Slo Scs hcs A_23 F_25 F_24 (Nat.le_trans Z0 (Nat.le_trans K_30.1 (Nat.le_of_eq g_23.symm))) (V_22.keep K_26 nin0) (by simp) hp (by simp)) hZ (own_w hw 27 rfl) (own_w hw 24 rfl) (by decide) (by decide)) (g := (mkF m 119 #[.val (.long q1), .second, .val (.long q2), .second, .val (.long q3), .second, .val (.int p4), .val (.int c0), .val (.int c1), .val (.int d0), .val (.int d1), .val (.int d2), .val (.int d3), .val (.int d4), .val (.int d5), .val (.int (p4 &&& (3 : Int32))), .val (.ref b_18), .unset, .unset, .unset, .unset, .unset, .unset, .unset] [(.ref b_18), (.ref b_23), (.ref b_23)])) rfl (by rw [hml]; rfl) (Steps.refl _) (a := b_23) (argsL := [(.ref b_18)]) (rest := [(.ref b_23)]) (lenOf pd_33 rfl) rfl (by show 2 * 0 + _ ≤ _; exact Nat.le_of_eq rfl) (hb hby at_119) (fun _ _ => ⟨rfl, e_23, (by decide : 2 + 2 ≤ _), (by decide : 7 + 309 ≤ _)⟩)
      dsimp only [Pt.U, Pt.locs, Pt.cells, Pt.slots] at X_32 l_32 y_32 z_32 st_32 hQ_32
      subst l_32 y_32 z_32
      obtain ⟨rfl, Nq_32, K_32q, q_32_0⟩ := hQ_32
      have N_32 := Fr.app N_21 Nq_32
      refine own_via (fun _ k => st_32.trans k) ?_
      show own_Go p e below _ (T_32.setTop (mkF m 122 #[.val (.long q1), .second, .val (.long q2), .second, .val (.long q3), .second, .val (.int p4), .val (.int c0), .val (.int c1), .val (.int d0), .val (.int d1), .val (.int d2), .val (.int d3), .val (.int d4), .val (.int d5), .val (.int (p4 &&& (3 : Int32))), .val (.ref b_18), .unset, .unset, .unset, .unset, .unset, .unset, .unset] [(.ref b_23)]))
      refine own_via (fun _ => XS.astore X_32.here hx rfl (hb hby at_122) rfl rfl (l' := #[.val (.long q1), .second, .val (.long q2), .second, .val (.long q3), .second, .val (.int p4), .val (.int c0), .val (.int c1), .val (.int d0), .val (.int d1), .val (.int d2), .val (.int d3), .val (.int d4), .val (.int d5), .val (.int (p4 &&& (3 : Int32))), .val (.ref b_18), .val (.ref b_23), .unset, .unset, .unset, .unset, .unset, .unset]) rfl) ?_
      show own_Go p e below _ (T_32.setTop (mkF m 124 #[.val (.long q1), .second, .val (.long q2), .second, .val (.long q3), .second, .val (.int p4), .val (.int c0), .val (.int c1), .val (.int d0), .val (.int d1), .val (.int d2), .val (.int d3), .val (.int d4), .val (.int d5), .val (.int (p4 &&& (3 : Int32))), .val (.ref b_18), .val (.ref b_23), .unset, .unset, .unset, .unset, .unset, .unset] []))
      refine own_aload X_32 hx (hb hby at_124) (q := 126) rfl rfl rfl ?_
      have K_33 : Keep h0 T_32.heap [] := Keep.trans (ws := []) K_31 K_32q (allS (Or.inr (Nat.le_trans K_30.1 (Nat.le_of_eq g_23.symm))) all0)
      obtain ⟨_, _, ⟨T_34, L_34, k_34, n_34⟩, -, X_34, ⟨Lc_34, hQ_34, l_34, y_34, z_34⟩, st_34⟩ := Jvm.LawKit.callS X_32 hx (y := (⟨"com/example/tender/tender/mailbox/MailAbstract", "of", "(Ljava/lang/String;)Ljava/lang/String;"⟩ : MethodName)) hown (mvT hZ (own_w hw 70 rfl)) (mvT hZ (own_w hw 71 rfl)) (mvT hZ (own_w hw 72 rfl)) (mvT hZ (own_w hw 73 rfl)) (by decide) (backOf (W := 0) (rmof l Z a0 hw [] b_23 ([c0, c1, d0] : List Int32) cz sf T_32.heap n0 (Nat.le_trans Z0 K_33.1) (O0.keep K_33 all0) Sad Shi Slo Scs hcs Ssf hsf q_32_0) hZ (own_w hw 73 rfl) (own_w hw 72 rfl) (by decide) (by decide)) (g := (mkF m 126 #[.val (.long q1), .second, .val (.long q2), .second, .val (.long q3), .second, .val (.int p4), .val (.int c0), .val (.int c1), .val (.int d0), .val (.int d1), .val (.int d2), .val (.int d3), .val (.int d4), .val (.int d5), .val (.int (p4 &&& (3 : Int32))), .val (.ref b_18), .val (.ref b_23), .unset, .unset, .unset, .unset, .unset, .unset] [(.ref b_23)])) rfl (by rw [hml]; rfl) (argsL := [(.ref b_23)]) (rest := []) (lenOf pd_31 rfl) rfl (by show 2 * 0 + _ ≤ _; exact Nat.le_of_eq rfl) (hb hby at_126) (fun _ _ => ⟨rfl, rfl, (by decide : 4 + 3 ≤ _), (by decide : 316 + 313 ≤ _)⟩)
      dsimp only [Pt.U, Pt.locs, Pt.cells, Pt.slots] at X_34 l_34 y_34 z_34 st_34 hQ_34
      subst l_34 y_34 z_34
      obtain ⟨r_35, rfl, Nq_34, K_34q, q_34_0⟩ := hQ_34
      have N_34 := Fr.app N_32 Nq_34
      refine own_via st_34 ?_
      show own_Go p e below _ (T_34.setTop (mkF m 129 #[.val (.long q1), .second, .val (.long q2), .second, .val (.long q3), .second, .val (.int p4), .val (.int c0), .val (.int c1), .val (.int d0), .val (.int d1), .val (.int d2), .val (.int d3), .val (.int d4), .val (.int d5), .val (.int (p4 &&& (3 : Int32))), .val (.ref b_18), .val (.ref b_23), .unset, .unset, .unset, .unset, .unset, .unset] [(.ref r_35)]))
      refine own_aload X_34 hx (hb hby at_129) (q := 131) rfl rfl rfl ?_
      have K_37 : Keep h0 T_34.heap [] := Keep.trans (ws := []) K_33 K_34q all0
      have K_38 : Keep T_32.heap T_34.heap [] := Keep.trans (ws := []) (Keep.refl T_32.heap []) K_34q all0
      obtain ⟨E_36a, ⟨t_36a, k_36a, cd_36a, N_36a, vs_36a, C_36a, V_36a, K_36a, hC_36a⟩, p_36a, l_36a⟩ := q_34_0
      obtain ⟨E_36b, ⟨t_36b, k_36b, cd_36b, N_36b, vs_36b, C_36b, V_36b, K_36b, hC_36b⟩, p_36b, l_36b⟩ := (q_32_0.keep0 K_38)
      obtain ⟨cq_39, kq_39, q_39a, q_39b, q_39c⟩ := isOf hZ rfl E_36a
      obtain ⟨_, _, ⟨T_39, L_39, k_39, n_39⟩, -, X_39, ⟨Lc_39, hQ_39, l_39, y_39, z_39⟩, st_39⟩ := X_34.virtualBack hx (y := (⟨"java/lang/String", "equals", "(Ljava/lang/Object;)Z"⟩ : MethodName)) (z := (⟨"java/lang/String", "equals", "(Ljava/lang/Object;)Z"⟩ : MethodName)) hown (mvT hZ (own_w hw 192 rfl)) (mvT hZ (own_w hw 193 rfl)) (notFace_of_selects (args := #[]) (mvT hZ (own_w hw 195 rfl))) (mvT hZ (own_w hw 195 rfl)) (mvT hZ (own_w hw 194 rfl)) (by decide) (StrChars.Road.eqW (W := 0) hZ (own_hwordsEq hw) (kI := 4) (own_w hw 23 rfl) E_36a V_36a C_36a K_36a hC_36a p_36a (by omega) E_36b V_36b C_36b K_36b hC_36b p_36b (by omega) (Scs.ext (O0.keep K_37 all0).2) hcs (by decide) (by decide)) q_39a q_39c (g := (mkF m 131 #[.val (.long q1), .second, .val (.long q2), .second, .val (.long q3), .second, .val (.int p4), .val (.int c0), .val (.int c1), .val (.int d0), .val (.int d1), .val (.int d2), .val (.int d3), .val (.int d4), .val (.int d5), .val (.int (p4 &&& (3 : Int32))), .val (.ref b_18), .val (.ref b_23), .unset, .unset, .unset, .unset, .unset, .unset] [(.ref b_23), (.ref r_35)])) rfl (by rw [hml]; rfl) (Steps.refl _) (argsL := [(.ref b_23)]) (rest := []) (lenOf pd_32 rfl) rfl (by show 2 * 0 + _ ≤ _; exact Nat.le_of_eq rfl) (hb hby at_131) (fun _ _ => ⟨rfl, rfl, (by decide : 7 + 0 ≤ _), (by decide : 629 + 0 ≤ _)⟩)
      dsimp only [Pt.U, Pt.locs, Pt.cells, Pt.slots] at X_39 l_39 y_39 z_39 st_39 hQ_39
      subst l_39 y_39 z_39
      obtain ⟨hv_39, rfl, e_39⟩ := hQ_39
      have N_39 := Fr.app N_34 (Fr.nil n0)
      rcases hv_39 with ⟨rfl, hq_39⟩ | ⟨rfl, hq_39⟩
      · refine own_via (fun _ k => st_39.trans k) ?_
        show own_Go p e below _ (T_39.setTop (mkF m 134 #[.val (.long q1), .second, .val (.long q2), .second, .val (.long q3), .second, .val (.int p4), .val (.int c0), .val (.int c1), .val (.int d0), .val (.int d1), .val (.int d2), .val (.int d3), .val (.int d4), .val (.int d5), .val (.int (p4 &&& (3 : Int32))), .val (.ref b_18), .val (.ref b_23), .unset, .unset, .unset, .unset, .unset, .unset] [(.int (1 : Int32))]))
        exact own_retvW X_39 hS0 (by rw [e_39]; exact (Nat.le_trans (Nat.zero_le _) K_37.1)) Bd.notSynchronized hx Bd.returns rfl (Or.inl ⟨rfl, (by simp), _, rfl⟩) (hb hby at_134) (by decide) (by decide) (by rw [e_39]; exact ⟨rfl, N_39, K_37⟩)
      · exact absurd (own_t3 rfl) hq_39
    · refine own_via (fun _ => XS.icmpYes X_8.here hx rfl (pc0 := 90) (pc' := 135) rfl (hb hby at_90) rfl (feq (h1 : ¬ ((p4 &&& (3 : Int32)) = (1 : Int32)))).2 (by decide) (by decide)) ?_
      show own_Go p e below _ (T_8.setTop (mkF m 135 #[.val (.long q1), .second, .val (.long q2), .second, .val (.long q3), .second, .val (.int p4), .val (.int c0), .val (.int c1), .val (.int d0), .val (.int d1), .val (.int d2), .val (.int d3), .val (.int d4), .val (.int d5), .val (.int (p4 &&& (3 : Int32))), .unset, .unset, .unset, .unset, .unset, .unset, .unset, .unset] []))
      refine own_bipush X_8 hx (hb hby at_135) (q := 137) (z := (103 : Int32)) rfl rfl ?_
      obtain ⟨T_40, h_40, k_40, X_40, e_40, E_40, A_40, st_40⟩ := newP X_8 hx hZ (own_w hw 8 rfl) e_8 (g := (mkF m 137 #[.val (.long q1), .second, .val (.long q2), .second, .val (.long q3), .second, .val (.int p4), .val (.int c0), .val (.int c1), .val (.int d0), .val (.int d1), .val (.int d2), .val (.int d3), .val (.int d4), .val (.int d5), .val (.int (p4 &&& (3 : Int32))), .unset, .unset, .unset, .unset, .unset, .unset, .unset, .unset] [(.int (103 : Int32))])) rfl (hb hby at_137) rfl (by decide) (cap := 103) (by decide) (by decide) (by decide) (by decide)
      obtain ⟨b_40, g_40⟩ : ∃ z, z = h0.size := ⟨_, rfl⟩
      rw [← g_40] at A_40 st_40
      have V_40 : Arv Z h_40 b_40 k_40 .char (103 : Int32) [] (.int (0 : Int32)) := Arv.new A_40 (by decide)
      refine own_via st_40 ?_
      show own_Go p e below _ (T_40.setTop (mkF m 139 #[.val (.long q1), .second, .val (.long q2), .second, .val (.long q3), .second, .val (.int p4), .val (.int c0), .val (.int c1), .val (.int d0), .val (.int d1), .val (.int d2), .val (.int d3), .val (.int d4), .val (.int d5), .val (.int (p4 &&& (3 : Int32))), .unset, .unset, .unset, .unset, .unset, .unset, .unset, .unset] [(.ref b_40)]))
      have V_41 : Arv Z h_40 b_40 k_40 .char (Int32.ofNat 103) (List.replicate 103 (.int (0 : Int32))) (.int (0 : Int32)) := V_40.pad (pad_rep [] (.int (0 : Int32)) 103)
      refine own_via (fun _ => XS.astore X_40.here hx rfl (hb hby at_139) rfl rfl (l' := #[.val (.long q1), .second, .val (.long q2), .second, .val (.long q3), .second, .val (.int p4), .val (.int c0), .val (.int c1), .val (.int d0), .val (.int d1), .val (.int d2), .val (.int d3), .val (.int d4), .val (.int d5), .val (.int (p4 &&& (3 : Int32))), .val (.ref b_40), .unset, .unset, .unset, .unset, .unset, .unset, .unset]) rfl) ?_
      show own_Go p e below _ (T_40.setTop (mkF m 141 #[.val (.long q1), .second, .val (.long q2), .second, .val (.long q3), .second, .val (.int p4), .val (.int c0), .val (.int c1), .val (.int d0), .val (.int d1), .val (.int d2), .val (.int d3), .val (.int d4), .val (.int d5), .val (.int (p4 &&& (3 : Int32))), .val (.ref b_40), .unset, .unset, .unset, .unset, .unset, .unset, .unset] []))
      refine own_aload X_40 hx (hb hby at_141) (q := 143) rfl rfl rfl ?_
      refine own_iconst X_40 hx (hb hby at_143) (q := 144) (z := (0 : Int32)) rfl rfl ?_
      refine own_iload X_40 hx (hb hby at_144) (q := 146) rfl rfl ?_
      obtain ⟨cl_42, Ar_42, q_42, S_42, M_42, H_42, G_42⟩ := (id V_41)
      obtain ⟨T_42, h_42, X_42, e_42, W_42, st_42⟩ := stC X_40 hx hZ e_40 Ar_42 (j := (0 : Int32)) (own_inbs (n := 103) (i := 0) S_42 (by decide) (by decide)) (g := (mkF m 146 #[.val (.long q1), .second, .val (.long q2), .second, .val (.long q3), .second, .val (.int p4), .val (.int c0), .val (.int c1), .val (.int d0), .val (.int d1), .val (.int d2), .val (.int d3), .val (.int d4), .val (.int d5), .val (.int (p4 &&& (3 : Int32))), .val (.ref b_40), .unset, .unset, .unset, .unset, .unset, .unset, .unset] [(.int c0), (.int (0 : Int32)), (.ref b_40)])) rfl rfl (hb hby at_146)
      have V_42 : Arv Z h_42 b_40 k_40 .char (Int32.ofNat 103) ((List.replicate 103 (.int (0 : Int32))).set 0 (.int (nar .char c0))) (.int (0 : Int32)) := Arv.set Ar_42 q_42 S_42 M_42 H_42 G_42 (fits_nar_char _) W_42 0 rfl (by rw [List.length_replicate]; decide)
      have N_42 := Fr.snoc X_42 N_8 (Nat.le_trans Z0 (Nat.le_of_eq g_40.symm))
      refine own_via st_42 ?_
      show own_Go p e below _ (T_42.setTop (mkF m 147 #[.val (.long q1), .second, .val (.long q2), .second, .val (.long q3), .second, .val (.int p4), .val (.int c0), .val (.int c1), .val (.int d0), .val (.int d1), .val (.int d2), .val (.int d3), .val (.int d4), .val (.int d5), .val (.int (p4 &&& (3 : Int32))), .val (.ref b_40), .unset, .unset, .unset, .unset, .unset, .unset, .unset] []))
      refine own_aload X_42 hx (hb hby at_147) (q := 149) rfl rfl rfl ?_
      refine own_iconst X_42 hx (hb hby at_149) (q := 150) (z := (1 : Int32)) rfl rfl ?_
      refine own_iload X_42 hx (hb hby at_150) (q := 152) rfl rfl ?_
      obtain ⟨cl_43, Ar_43, q_43, S_43, M_43, H_43, G_43⟩ := (id V_42)
      obtain ⟨T_43, h_43, X_43, e_43, W_43, st_43⟩ := stC X_42 hx hZ e_42 Ar_43 (j := (1 : Int32)) (own_inbs (n := 103) (i := 1) S_43 (by decide) (by decide)) (g := (mkF m 152 #[.val (.long q1), .second, .val (.long q2), .second, .val (.long q3), .second, .val (.int p4), .val (.int c0), .val (.int c1), .val (.int d0), .val (.int d1), .val (.int d2), .val (.int d3), .val (.int d4), .val (.int d5), .val (.int (p4 &&& (3 : Int32))), .val (.ref b_40), .unset, .unset, .unset, .unset, .unset, .unset, .unset] [(.int c1), (.int (1 : Int32)), (.ref b_40)])) rfl rfl (hb hby at_152)
      have V_43 : Arv Z h_43 b_40 k_40 .char (Int32.ofNat 103) (((List.replicate 103 (.int (0 : Int32))).set 0 (.int (nar .char c0))).set 1 (.int (nar .char c1))) (.int (0 : Int32)) := Arv.set Ar_43 q_43 S_43 M_43 H_43 G_43 (fits_nar_char _) W_43 1 rfl (by rw [List.length_set, List.length_replicate]; decide)
      have N_43 := Fr.snoc X_43 N_42 (Nat.le_trans Z0 (Nat.le_of_eq g_40.symm))
      refine own_via st_43 ?_
      show own_Go p e below _ (T_43.setTop (mkF m 153 #[.val (.long q1), .second, .val (.long q2), .second, .val (.long q3), .second, .val (.int p4), .val (.int c0), .val (.int c1), .val (.int d0), .val (.int d1), .val (.int d2), .val (.int d3), .val (.int d4), .val (.int d5), .val (.int (p4 &&& (3 : Int32))), .val (.ref b_40), .unset, .unset, .unset, .unset, .unset, .unset, .unset] []))
      refine own_aload X_43 hx (hb hby at_153) (q := 155) rfl rfl rfl ?_
      refine own_bipush X_43 hx (hb hby at_155) (q := 157) (z := (97 : Int32)) rfl rfl ?_
      refine own_iload X_43 hx (hb hby at_157) (q := 159) rfl rfl ?_
      obtain ⟨cl_44, Ar_44, q_44, S_44, M_44, H_44, G_44⟩ := (id V_43)
      obtain ⟨T_44, h_44, X_44, e_44, W_44, st_44⟩ := stC X_43 hx hZ e_43 Ar_44 (j := (97 : Int32)) (own_inbs (n := 103) (i := 97) S_44 (by decide) (by decide)) (g := (mkF m 159 #[.val (.long q1), .second, .val (.long q2), .second, .val (.long q3), .second, .val (.int p4), .val (.int c0), .val (.int c1), .val (.int d0), .val (.int d1), .val (.int d2), .val (.int d3), .val (.int d4), .val (.int d5), .val (.int (p4 &&& (3 : Int32))), .val (.ref b_40), .unset, .unset, .unset, .unset, .unset, .unset, .unset] [(.int d0), (.int (97 : Int32)), (.ref b_40)])) rfl rfl (hb hby at_159)
      have V_44 : Arv Z h_44 b_40 k_40 .char (Int32.ofNat 103) ((((List.replicate 103 (.int (0 : Int32))).set 0 (.int (nar .char c0))).set 1 (.int (nar .char c1))).set 97 (.int (nar .char d0))) (.int (0 : Int32)) := Arv.set Ar_44 q_44 S_44 M_44 H_44 G_44 (fits_nar_char _) W_44 97 rfl (by rw [List.length_set, List.length_set, List.length_replicate]; decide)
      have N_44 := Fr.snoc X_44 N_43 (Nat.le_trans Z0 (Nat.le_of_eq g_40.symm))
      refine own_via st_44 ?_
      show own_Go p e below _ (T_44.setTop (mkF m 160 #[.val (.long q1), .second, .val (.long q2), .second, .val (.long q3), .second, .val (.int p4), .val (.int c0), .val (.int c1), .val (.int d0), .val (.int d1), .val (.int d2), .val (.int d3), .val (.int d4), .val (.int d5), .val (.int (p4 &&& (3 : Int32))), .val (.ref b_40), .unset, .unset, .unset, .unset, .unset, .unset, .unset] []))
      refine own_aload X_44 hx (hb hby at_160) (q := 162) rfl rfl rfl ?_
      refine own_bipush X_44 hx (hb hby at_162) (q := 164) (z := (98 : Int32)) rfl rfl ?_
      refine own_iload X_44 hx (hb hby at_164) (q := 166) rfl rfl ?_
      obtain ⟨cl_45, Ar_45, q_45, S_45, M_45, H_45, G_45⟩ := (id V_44)
      obtain ⟨T_45, h_45, X_45, e_45, W_45, st_45⟩ := stC X_44 hx hZ e_44 Ar_45 (j := (98 : Int32)) (own_inbs (n := 103) (i := 98) S_45 (by decide) (by decide)) (g := (mkF m 166 #[.val (.long q1), .second, .val (.long q2), .second, .val (.long q3), .second, .val (.int p4), .val (.int c0), .val (.int c1), .val (.int d0), .val (.int d1), .val (.int d2), .val (.int d3), .val (.int d4), .val (.int d5), .val (.int (p4 &&& (3 : Int32))), .val (.ref b_40), .unset, .unset, .unset, .unset, .unset, .unset, .unset] [(.int d1), (.int (98 : Int32)), (.ref b_40)])) rfl rfl (hb hby at_166)
      have V_45 : Arv Z h_45 b_40 k_40 .char (Int32.ofNat 103) (((((List.replicate 103 (.int (0 : Int32))).set 0 (.int (nar .char c0))).set 1 (.int (nar .char c1))).set 97 (.int (nar .char d0))).set 98 (.int (nar .char d1))) (.int (0 : Int32)) := Arv.set Ar_45 q_45 S_45 M_45 H_45 G_45 (fits_nar_char _) W_45 98 rfl (by rw [List.length_set, List.length_set, List.length_set, List.length_replicate]; decide)
      have N_45 := Fr.snoc X_45 N_44 (Nat.le_trans Z0 (Nat.le_of_eq g_40.symm))
      refine own_via st_45 ?_
      show own_Go p e below _ (T_45.setTop (mkF m 167 #[.val (.long q1), .second, .val (.long q2), .second, .val (.long q3), .second, .val (.int p4), .val (.int c0), .val (.int c1), .val (.int d0), .val (.int d1), .val (.int d2), .val (.int d3), .val (.int d4), .val (.int d5), .val (.int (p4 &&& (3 : Int32))), .val (.ref b_40), .unset, .unset, .unset, .unset, .unset, .unset, .unset] []))
      refine own_aload X_45 hx (hb hby at_167) (q := 169) rfl rfl rfl ?_
      refine own_bipush X_45 hx (hb hby at_169) (q := 171) (z := (99 : Int32)) rfl rfl ?_
      refine own_iload X_45 hx (hb hby at_171) (q := 173) rfl rfl ?_
      obtain ⟨cl_46, Ar_46, q_46, S_46, M_46, H_46, G_46⟩ := (id V_45)
      obtain ⟨T_46, h_46, X_46, e_46, W_46, st_46⟩ := stC X_45 hx hZ e_45 Ar_46 (j := (99 : Int32)) (own_inbs (n := 103) (i := 99) S_46 (by decide) (by decide)) (g := (mkF m 173 #[.val (.long q1), .second, .val (.long q2), .second, .val (.long q3), .second, .val (.int p4), .val (.int c0), .val (.int c1), .val (.int d0), .val (.int d1), .val (.int d2), .val (.int d3), .val (.int d4), .val (.int d5), .val (.int (p4 &&& (3 : Int32))), .val (.ref b_40), .unset, .unset, .unset, .unset, .unset, .unset, .unset] [(.int d2), (.int (99 : Int32)), (.ref b_40)])) rfl rfl (hb hby at_173)
      have V_46 : Arv Z h_46 b_40 k_40 .char (Int32.ofNat 103) ((((((List.replicate 103 (.int (0 : Int32))).set 0 (.int (nar .char c0))).set 1 (.int (nar .char c1))).set 97 (.int (nar .char d0))).set 98 (.int (nar .char d1))).set 99 (.int (nar .char d2))) (.int (0 : Int32)) := Arv.set Ar_46 q_46 S_46 M_46 H_46 G_46 (fits_nar_char _) W_46 99 rfl (by rw [List.length_set, List.length_set, List.length_set, List.length_set, List.length_replicate]; decide)
      have N_46 := Fr.snoc X_46 N_45 (Nat.le_trans Z0 (Nat.le_of_eq g_40.symm))
      refine own_via st_46 ?_
      show own_Go p e below _ (T_46.setTop (mkF m 174 #[.val (.long q1), .second, .val (.long q2), .second, .val (.long q3), .second, .val (.int p4), .val (.int c0), .val (.int c1), .val (.int d0), .val (.int d1), .val (.int d2), .val (.int d3), .val (.int d4), .val (.int d5), .val (.int (p4 &&& (3 : Int32))), .val (.ref b_40), .unset, .unset, .unset, .unset, .unset, .unset, .unset] []))
      refine own_aload X_46 hx (hb hby at_174) (q := 176) rfl rfl rfl ?_
      refine own_bipush X_46 hx (hb hby at_176) (q := 178) (z := (100 : Int32)) rfl rfl ?_
      refine own_iload X_46 hx (hb hby at_178) (q := 180) rfl rfl ?_
      obtain ⟨cl_47, Ar_47, q_47, S_47, M_47, H_47, G_47⟩ := (id V_46)
      obtain ⟨T_47, h_47, X_47, e_47, W_47, st_47⟩ := stC X_46 hx hZ e_46 Ar_47 (j := (100 : Int32)) (own_inbs (n := 103) (i := 100) S_47 (by decide) (by decide)) (g := (mkF m 180 #[.val (.long q1), .second, .val (.long q2), .second, .val (.long q3), .second, .val (.int p4), .val (.int c0), .val (.int c1), .val (.int d0), .val (.int d1), .val (.int d2), .val (.int d3), .val (.int d4), .val (.int d5), .val (.int (p4 &&& (3 : Int32))), .val (.ref b_40), .unset, .unset, .unset, .unset, .unset, .unset, .unset] [(.int d3), (.int (100 : Int32)), (.ref b_40)])) rfl rfl (hb hby at_180)
      have V_47 : Arv Z h_47 b_40 k_40 .char (Int32.ofNat 103) (((((((List.replicate 103 (.int (0 : Int32))).set 0 (.int (nar .char c0))).set 1 (.int (nar .char c1))).set 97 (.int (nar .char d0))).set 98 (.int (nar .char d1))).set 99 (.int (nar .char d2))).set 100 (.int (nar .char d3))) (.int (0 : Int32)) := Arv.set Ar_47 q_47 S_47 M_47 H_47 G_47 (fits_nar_char _) W_47 100 rfl (by rw [List.length_set, List.length_set, List.length_set, List.length_set, List.length_set, List.length_replicate]; decide)
      have N_47 := Fr.snoc X_47 N_46 (Nat.le_trans Z0 (Nat.le_of_eq g_40.symm))
      refine own_via st_47 ?_
      show own_Go p e below _ (T_47.setTop (mkF m 181 #[.val (.long q1), .second, .val (.long q2), .second, .val (.long q3), .second, .val (.int p4), .val (.int c0), .val (.int c1), .val (.int d0), .val (.int d1), .val (.int d2), .val (.int d3), .val (.int d4), .val (.int d5), .val (.int (p4 &&& (3 : Int32))), .val (.ref b_40), .unset, .unset, .unset, .unset, .unset, .unset, .unset] []))
      refine own_aload X_47 hx (hb hby at_181) (q := 183) rfl rfl rfl ?_
      refine own_bipush X_47 hx (hb hby at_183) (q := 185) (z := (101 : Int32)) rfl rfl ?_
      refine own_iload X_47 hx (hb hby at_185) (q := 187) rfl rfl ?_
      obtain ⟨cl_48, Ar_48, q_48, S_48, M_48, H_48, G_48⟩ := (id V_47)
      obtain ⟨T_48, h_48, X_48, e_48, W_48, st_48⟩ := stC X_47 hx hZ e_47 Ar_48 (j := (101 : Int32)) (own_inbs (n := 103) (i := 101) S_48 (by decide) (by decide)) (g := (mkF m 187 #[.val (.long q1), .second, .val (.long q2), .second, .val (.long q3), .second, .val (.int p4), .val (.int c0), .val (.int c1), .val (.int d0), .val (.int d1), .val (.int d2), .val (.int d3), .val (.int d4), .val (.int d5), .val (.int (p4 &&& (3 : Int32))), .val (.ref b_40), .unset, .unset, .unset, .unset, .unset, .unset, .unset] [(.int d4), (.int (101 : Int32)), (.ref b_40)])) rfl rfl (hb hby at_187)
      have V_48 : Arv Z h_48 b_40 k_40 .char (Int32.ofNat 103) ((((((((List.replicate 103 (.int (0 : Int32))).set 0 (.int (nar .char c0))).set 1 (.int (nar .char c1))).set 97 (.int (nar .char d0))).set 98 (.int (nar .char d1))).set 99 (.int (nar .char d2))).set 100 (.int (nar .char d3))).set 101 (.int (nar .char d4))) (.int (0 : Int32)) := Arv.set Ar_48 q_48 S_48 M_48 H_48 G_48 (fits_nar_char _) W_48 101 rfl (by rw [List.length_set, List.length_set, List.length_set, List.length_set, List.length_set, List.length_set, List.length_replicate]; decide)
      have N_48 := Fr.snoc X_48 N_47 (Nat.le_trans Z0 (Nat.le_of_eq g_40.symm))
      refine own_via st_48 ?_
      show own_Go p e below _ (T_48.setTop (mkF m 188 #[.val (.long q1), .second, .val (.long q2), .second, .val (.long q3), .second, .val (.int p4), .val (.int c0), .val (.int c1), .val (.int d0), .val (.int d1), .val (.int d2), .val (.int d3), .val (.int d4), .val (.int d5), .val (.int (p4 &&& (3 : Int32))), .val (.ref b_40), .unset, .unset, .unset, .unset, .unset, .unset, .unset] []))
      refine own_aload X_48 hx (hb hby at_188) (q := 190) rfl rfl rfl ?_
      refine own_bipush X_48 hx (hb hby at_190) (q := 192) (z := (102 : Int32)) rfl rfl ?_
      refine own_iload X_48 hx (hb hby at_192) (q := 194) rfl rfl ?_
      obtain ⟨cl_49, Ar_49, q_49, S_49, M_49, H_49, G_49⟩ := (id V_48)
      obtain ⟨T_49, h_49, X_49, e_49, W_49, st_49⟩ := stC X_48 hx hZ e_48 Ar_49 (j := (102 : Int32)) (own_inbs (n := 103) (i := 102) S_49 (by decide) (by decide)) (g := (mkF m 194 #[.val (.long q1), .second, .val (.long q2), .second, .val (.long q3), .second, .val (.int p4), .val (.int c0), .val (.int c1), .val (.int d0), .val (.int d1), .val (.int d2), .val (.int d3), .val (.int d4), .val (.int d5), .val (.int (p4 &&& (3 : Int32))), .val (.ref b_40), .unset, .unset, .unset, .unset, .unset, .unset, .unset] [(.int d5), (.int (102 : Int32)), (.ref b_40)])) rfl rfl (hb hby at_194)
      have V_49 : Arv Z h_49 b_40 k_40 .char (Int32.ofNat 103) (((((((((List.replicate 103 (.int (0 : Int32))).set 0 (.int (nar .char c0))).set 1 (.int (nar .char c1))).set 97 (.int (nar .char d0))).set 98 (.int (nar .char d1))).set 99 (.int (nar .char d2))).set 100 (.int (nar .char d3))).set 101 (.int (nar .char d4))).set 102 (.int (nar .char d5))) (.int (0 : Int32)) := Arv.set Ar_49 q_49 S_49 M_49 H_49 G_49 (fits_nar_char _) W_49 102 rfl (by rw [List.length_set, List.length_set, List.length_set, List.length_set, List.length_set, List.length_set, List.length_set, List.length_replicate]; decide)
      have N_49 := Fr.snoc X_49 N_48 (Nat.le_trans Z0 (Nat.le_of_eq g_40.symm))
      refine own_via st_49 ?_
      show own_Go p e below _ (T_49.setTop (mkF m 195 #[.val (.long q1), .second, .val (.long q2), .second, .val (.long q3), .second, .val (.int p4), .val (.int c0), .val (.int c1), .val (.int d0), .val (.int d1), .val (.int d2), .val (.int d3), .val (.int d4), .val (.int d5), .val (.int (p4 &&& (3 : Int32))), .val (.ref b_40), .unset, .unset, .unset, .unset, .unset, .unset, .unset] []))
      have V_50 : Arv Z h_49 b_40 k_40 .char (Int32.ofNat 103) ((own_t c0 c1 d0 d1 d2 d3 d4 d5).map Value.int) (.int (0 : Int32)) := by have q := V_49; rw [own_nar16 hc0, own_nar16 hc1, own_nar16 hd0, own_nar16 hd1, own_nar16 hd2, own_nar16 hd3, own_nar16 hd4, own_nar16 hd5] at q; first | (rw [own_ck103 c0 c1 d0 d1 d2 d3 d4 d5] at q; exact q) | exact q
      have htl := own_tl c0 c1 d0 d1 d2 d3 d4 d5
      have hp : ∀ c ∈ (own_t c0 c1 d0 d1 d2 d3 d4 d5), ¬ c < 0 ∧ ¬ (65535 : Int32) < c := own_tmem (by decide) hc0 hc1 hd0 hd1 hd2 hd3 hd4 hd5
      refine own_iload X_49 hx (hb hby at_195) (q := 197) rfl rfl ?_
      have K_51 : Keep h0 h_40 [] := (Keep.refl h0 []).ext E_40
      have K_52 : Keep h0 h_42 [] := Keep.wr (ws := []) K_51 W_42 (Or.inr (Nat.le_of_eq g_40.symm))
      have K_53 : Keep h0 h_43 [] := Keep.wr (ws := []) K_52 W_43 (Or.inr (Nat.le_of_eq g_40.symm))
      have K_54 : Keep h0 h_44 [] := Keep.wr (ws := []) K_53 W_44 (Or.inr (Nat.le_of_eq g_40.symm))
      have K_55 : Keep h0 h_45 [] := Keep.wr (ws := []) K_54 W_45 (Or.inr (Nat.le_of_eq g_40.symm))
      have K_56 : Keep h0 h_46 [] := Keep.wr (ws := []) K_55 W_46 (Or.inr (Nat.le_of_eq g_40.symm))
      have K_57 : Keep h0 h_47 [] := Keep.wr (ws := []) K_56 W_47 (Or.inr (Nat.le_of_eq g_40.symm))
      have K_58 : Keep h0 h_48 [] := Keep.wr (ws := []) K_57 W_48 (Or.inr (Nat.le_of_eq g_40.symm))
      have K_59 : Keep h0 h_49 [] := Keep.wr (ws := []) K_58 W_49 (Or.inr (Nat.le_of_eq g_40.symm))
      obtain ⟨_, _, ⟨T_60, L_60, k_60, n_60⟩, -, X_60, ⟨Lc_60, hQ_60, l_60, y_60, z_60⟩, st_60⟩ := Jvm.LawKit.callS X_49 hx (y := (⟨"com/example/tender/tender/mailbox/MailAbstractOfPinLaw", "high", "(C)Z"⟩ : MethodName)) hown (mvT hZ (own_w hw 9 rfl)) (mvT hZ (own_w hw 10 rfl)) (mvT hZ (own_w hw 2 rfl)) (mvT hZ (own_w hw 11 rfl)) (by decide) (backOf (W := 0) (rmhigh l Z a0 hw [] c0 h_49 n0 (Nat.le_trans Z0 K_59.1) ) hZ (own_w hw 11 rfl) (own_w hw 2 rfl) (by decide) (by decide)) (g := (mkF m 197 #[.val (.long q1), .second, .val (.long q2), .second, .val (.long q3), .second, .val (.int p4), .val (.int c0), .val (.int c1), .val (.int d0), .val (.int d1), .val (.int d2), .val (.int d3), .val (.int d4), .val (.int d5), .val (.int (p4 &&& (3 : Int32))), .val (.ref b_40), .unset, .unset, .unset, .unset, .unset, .unset, .unset] [(.int c0)])) rfl (by rw [hml]; rfl) (argsL := [(.int c0)]) (rest := []) (lenOf pd_0 rfl) rfl (by show 2 * 0 + _ ≤ _; exact Nat.le_of_eq rfl) (hb hby at_197) (fun _ _ => ⟨rfl, e_49, (by decide : 1 + 0 ≤ _), (by decide : 103 + 0 ≤ _)⟩)
      dsimp only [Pt.U, Pt.locs, Pt.cells, Pt.slots] at X_60 l_60 y_60 z_60 st_60 hQ_60
      subst l_60 y_60 z_60
      obtain ⟨i_61, rfl, Nq_60, e_60, q_60_0⟩ := hQ_60
      have N_60 := Fr.app N_49 Nq_60
      refine own_via st_60 ?_
      show own_Go p e below _ (T_60.setTop (mkF m 200 #[.val (.long q1), .second, .val (.long q2), .second, .val (.long q3), .second, .val (.int p4), .val (.int c0), .val (.int c1), .val (.int d0), .val (.int d1), .val (.int d2), .val (.int d3), .val (.int d4), .val (.int d5), .val (.int (p4 &&& (3 : Int32))), .val (.ref b_40), .unset, .unset, .unset, .unset, .unset, .unset, .unset] [(.int i_61)]))
      have kj_62 : ∀ (T_63 : State) (L_64 : List Loc) (zp : Int32) (hzp : zp = if own_hi c0 ∧ own_lo c1 then 1 else 0) (X_66 : Stand p l e room_1 (s.setVm s.vm) m #[(.long q1), (.long q2), (.long q3), (.int p4)] below meth c T_63 L_64 1 103) (e_66 : T_63.heap = h_49) (N_66 : Fr n0 L_64), own_Go p e below (fun o U' => ∃ v L, o = .returned v ∧ Q0 Z q1 q2 q3 p4 cz sf h0 n0 v U'.heap L U'.vm ∧ ReturnedEndW s o U' L room_1.cells room_1.slots) (T_63.setTop (mkF m 216 #[.val (.long q1), .second, .val (.long q2), .second, .val (.long q3), .second, .val (.int p4), .val (.int c0), .val (.int c1), .val (.int d0), .val (.int d1), .val (.int d2), .val (.int d3), .val (.int d4), .val (.int d5), .val (.int (p4 &&& (3 : Int32))), .val (.ref b_40), .unset, .unset, .unset, .unset, .unset, .unset, .unset] [(.int zp)])) := by
        intro T_63 L_64 zp hzp X_66 e_66 N_66
        refine own_via (fun _ => XS.istore X_66.here hx rfl (hb hby at_216) rfl (l' := #[.val (.long q1), .second, .val (.long q2), .second, .val (.long q3), .second, .val (.int p4), .val (.int c0), .val (.int c1), .val (.int d0), .val (.int d1), .val (.int d2), .val (.int d3), .val (.int d4), .val (.int d5), .val (.int (p4 &&& (3 : Int32))), .val (.ref b_40), .val (.int zp), .unset, .unset, .unset, .unset, .unset, .unset]) rfl) ?_
        show own_Go p e below _ (T_63.setTop (mkF m 218 #[.val (.long q1), .second, .val (.long q2), .second, .val (.long q3), .second, .val (.int p4), .val (.int c0), .val (.int c1), .val (.int d0), .val (.int d1), .val (.int d2), .val (.int d3), .val (.int d4), .val (.int d5), .val (.int (p4 &&& (3 : Int32))), .val (.ref b_40), .val (.int zp), .unset, .unset, .unset, .unset, .unset, .unset] []))
        refine own_aload X_66 hx (hb hby at_218) (q := 220) rfl rfl rfl ?_
        refine own_aload X_66 hx (hb hby at_220) (q := 222) rfl rfl rfl ?_
        refine own_aload X_66 hx (hb hby at_222) (q := 224) rfl rfl rfl ?_
        refine own_bipush X_66 hx (hb hby at_224) (q := 226) (z := (97 : Int32)) rfl rfl ?_
        show own_Go p e below _ (T_63.setTop (mkF m 226 #[.val (.long q1), .second, .val (.long q2), .second, .val (.long q3), .second, .val (.int p4), .val (.int c0), .val (.int c1), .val (.int d0), .val (.int d1), .val (.int d2), .val (.int d3), .val (.int d4), .val (.int d5), .val (.int (p4 &&& (3 : Int32))), .val (.ref b_40), .val (.int zp), .unset, .unset, .unset, .unset, .unset, .unset] [(.int (Int32.ofNat 97)), (.ref b_40), (.ref b_40), (.ref b_40)]))
        obtain ⟨_, _, ⟨T_67, L_67, k_67, n_67⟩, -, X_67, ⟨Lc_67, hQ_67, l_67, y_67, z_67⟩, st_67⟩ := Jvm.LawKit.callS X_66 hx (y := (⟨"com/example/tender/tender/mailbox/MailAbstractOfPinLaw", "step", "([CI)I"⟩ : MethodName)) hown (mvT hZ (own_w hw 12 rfl)) (mvT hZ (own_w hw 13 rfl)) (mvT hZ (own_w hw 2 rfl)) (mvT hZ (own_w hw 14 rfl)) (by decide) (backOf (W := 2) (rmstep l Z a0 hw [] b_40 k_40 (own_t c0 c1 d0 d1 d2 d3 d4 d5) 97 h_49 n0 (Nat.le_trans Z0 K_59.1) (by rw [htl]; exact V_50) (by omega) (Nat.le_trans (by omega : 97 ≤ 103) (by omega))) hZ (own_w hw 14 rfl) (own_w hw 2 rfl) (by decide) (by decide)) (g := (mkF m 226 #[.val (.long q1), .second, .val (.long q2), .second, .val (.long q3), .second, .val (.int p4), .val (.int c0), .val (.int c1), .val (.int d0), .val (.int d1), .val (.int d2), .val (.int d3), .val (.int d4), .val (.int d5), .val (.int (p4 &&& (3 : Int32))), .val (.ref b_40), .val (.int zp), .unset, .unset, .unset, .unset, .unset, .unset] [(.int (Int32.ofNat 97)), (.ref b_40), (.ref b_40), (.ref b_40)])) rfl (by rw [hml]; rfl) (argsL := [(.ref b_40), (.int (Int32.ofNat 97))]) (rest := [(.ref b_40), (.ref b_40)]) (lenOf pd_34 rfl) rfl (by show 2 * 0 + _ ≤ _; exact Nat.le_of_eq rfl) (hb hby at_226) (fun _ _ => ⟨rfl, e_66, (by decide : 1 + 0 ≤ _), (by decide : 103 + 0 ≤ _)⟩)
        dsimp only [Pt.U, Pt.locs, Pt.cells, Pt.slots] at X_67 l_67 y_67 z_67 st_67 hQ_67
        subst l_67 y_67 z_67
        obtain ⟨rfl, Nq_67, e_67⟩ := hQ_67
        have N_67 := Fr.app N_66 Nq_67
        refine own_via st_67 ?_
        show own_Go p e below _ (T_67.setTop (mkF m 229 #[.val (.long q1), .second, .val (.long q2), .second, .val (.long q3), .second, .val (.int p4), .val (.int c0), .val (.int c1), .val (.int d0), .val (.int d1), .val (.int d2), .val (.int d3), .val (.int d4), .val (.int d5), .val (.int (p4 &&& (3 : Int32))), .val (.ref b_40), .val (.int zp), .unset, .unset, .unset, .unset, .unset, .unset] [(.int (Int32.ofNat (own_nx (own_t c0 c1 d0 d1 d2 d3 d4 d5) 97))), (.ref b_40), (.ref b_40)]))
        obtain ⟨_, _, ⟨T_68, L_68, k_68, n_68⟩, -, X_68, ⟨Lc_68, hQ_68, l_68, y_68, z_68⟩, st_68⟩ := Jvm.LawKit.callS X_67 hx (y := (⟨"com/example/tender/tender/mailbox/MailAbstractOfPinLaw", "step", "([CI)I"⟩ : MethodName)) hown (mvT hZ (own_w hw 12 rfl)) (mvT hZ (own_w hw 13 rfl)) (mvT hZ (own_w hw 2 rfl)) (mvT hZ (own_w hw 14 rfl)) (by decide) (backOf (W := 1) (rmstep l Z a0 hw [] b_40 k_40 (own_t c0 c1 d0 d1 d2 d3 d4 d5) (own_nx (own_t c0 c1 d0 d1 d2 d3 d4 d5) 97) h_49 n0 (Nat.le_trans Z0 K_59.1) (by rw [htl]; exact V_50) (by omega) (Nat.le_trans (own_nx103 (by omega : 97 ≤ 103)) (by omega))) hZ (own_w hw 14 rfl) (own_w hw 2 rfl) (by decide) (by decide)) (g := (mkF m 229 #[.val (.long q1), .second, .val (.long q2), .second, .val (.long q3), .second, .val (.int p4), .val (.int c0), .val (.int c1), .val (.int d0), .val (.int d1), .val (.int d2), .val (.int d3), .val (.int d4), .val (.int d5), .val (.int (p4 &&& (3 : Int32))), .val (.ref b_40), .val (.int zp), .unset, .unset, .unset, .unset, .unset, .unset] [(.int (Int32.ofNat (own_nx (own_t c0 c1 d0 d1 d2 d3 d4 d5) 97))), (.ref b_40), (.ref b_40)])) rfl (by rw [hml]; rfl) (argsL := [(.ref b_40), (.int (Int32.ofNat (own_nx (own_t c0 c1 d0 d1 d2 d3 d4 d5) 97)))]) (rest := [(.ref b_40)]) (lenOf pd_34 rfl) rfl (by show 2 * 0 + _ ≤ _; exact Nat.le_of_eq rfl) (hb hby at_229) (fun _ _ => ⟨rfl, e_67, (by decide : 1 + 0 ≤ _), (by decide : 103 + 0 ≤ _)⟩)
        dsimp only [Pt.U, Pt.locs, Pt.cells, Pt.slots] at X_68 l_68 y_68 z_68 st_68 hQ_68
        subst l_68 y_68 z_68
        obtain ⟨rfl, Nq_68, e_68⟩ := hQ_68
        have N_68 := Fr.app N_67 Nq_68
        refine own_via st_68 ?_
        show own_Go p e below _ (T_68.setTop (mkF m 232 #[.val (.long q1), .second, .val (.long q2), .second, .val (.long q3), .second, .val (.int p4), .val (.int c0), .val (.int c1), .val (.int d0), .val (.int d1), .val (.int d2), .val (.int d3), .val (.int d4), .val (.int d5), .val (.int (p4 &&& (3 : Int32))), .val (.ref b_40), .val (.int zp), .unset, .unset, .unset, .unset, .unset, .unset] [(.int (Int32.ofNat (own_nx (own_t c0 c1 d0 d1 d2 d3 d4 d5) (own_nx (own_t c0 c1 d0 d1 d2 d3 d4 d5) 97)))), (.ref b_40)]))
        obtain ⟨_, _, ⟨T_69, L_69, k_69, n_69⟩, -, X_69, ⟨Lc_69, hQ_69, l_69, y_69, z_69⟩, st_69⟩ := Jvm.LawKit.callS X_68 hx (y := (⟨"com/example/tender/tender/mailbox/MailAbstractOfPinLaw", "step", "([CI)I"⟩ : MethodName)) hown (mvT hZ (own_w hw 12 rfl)) (mvT hZ (own_w hw 13 rfl)) (mvT hZ (own_w hw 2 rfl)) (mvT hZ (own_w hw 14 rfl)) (by decide) (backOf (W := 0) (rmstep l Z a0 hw [] b_40 k_40 (own_t c0 c1 d0 d1 d2 d3 d4 d5) (own_nx (own_t c0 c1 d0 d1 d2 d3 d4 d5) (own_nx (own_t c0 c1 d0 d1 d2 d3 d4 d5) 97)) h_49 n0 (Nat.le_trans Z0 K_59.1) (by rw [htl]; exact V_50) (by omega) (Nat.le_trans (own_nx103 (own_nx103 (by omega : 97 ≤ 103))) (by omega))) hZ (own_w hw 14 rfl) (own_w hw 2 rfl) (by decide) (by decide)) (g := (mkF m 232 #[.val (.long q1), .second, .val (.long q2), .second, .val (.long q3), .second, .val (.int p4), .val (.int c0), .val (.int c1), .val (.int d0), .val (.int d1), .val (.int d2), .val (.int d3), .val (.int d4), .val (.int d5), .val (.int (p4 &&& (3 : Int32))), .val (.ref b_40), .val (.int zp), .unset, .unset, .unset, .unset, .unset, .unset] [(.int (Int32.ofNat (own_nx (own_t c0 c1 d0 d1 d2 d3 d4 d5) (own_nx (own_t c0 c1 d0 d1 d2 d3 d4 d5) 97)))), (.ref b_40)])) rfl (by rw [hml]; rfl) (argsL := [(.ref b_40), (.int (Int32.ofNat (own_nx (own_t c0 c1 d0 d1 d2 d3 d4 d5) (own_nx (own_t c0 c1 d0 d1 d2 d3 d4 d5) 97))))]) (rest := []) (lenOf pd_34 rfl) rfl (by show 2 * 0 + _ ≤ _; exact Nat.le_of_eq rfl) (hb hby at_232) (fun _ _ => ⟨rfl, e_68, (by decide : 1 + 0 ≤ _), (by decide : 103 + 0 ≤ _)⟩)
        dsimp only [Pt.U, Pt.locs, Pt.cells, Pt.slots] at X_69 l_69 y_69 z_69 st_69 hQ_69
        subst l_69 y_69 z_69
        obtain ⟨rfl, Nq_69, e_69⟩ := hQ_69
        have N_69 := Fr.app N_68 Nq_69
        refine own_via st_69 ?_
        show own_Go p e below _ (T_69.setTop (mkF m 235 #[.val (.long q1), .second, .val (.long q2), .second, .val (.long q3), .second, .val (.int p4), .val (.int c0), .val (.int c1), .val (.int d0), .val (.int d1), .val (.int d2), .val (.int d3), .val (.int d4), .val (.int d5), .val (.int (p4 &&& (3 : Int32))), .val (.ref b_40), .val (.int zp), .unset, .unset, .unset, .unset, .unset, .unset] [(.int (Int32.ofNat (own_nx (own_t c0 c1 d0 d1 d2 d3 d4 d5) (own_nx (own_t c0 c1 d0 d1 d2 d3 d4 d5) (own_nx (own_t c0 c1 d0 d1 d2 d3 d4 d5) 97)))))]))
        refine own_via (fun _ => XS.istore X_69.here hx rfl (hb hby at_235) rfl (l' := #[.val (.long q1), .second, .val (.long q2), .second, .val (.long q3), .second, .val (.int p4), .val (.int c0), .val (.int c1), .val (.int d0), .val (.int d1), .val (.int d2), .val (.int d3), .val (.int d4), .val (.int d5), .val (.int (p4 &&& (3 : Int32))), .val (.ref b_40), .val (.int zp), .val (.int (Int32.ofNat (own_nx (own_t c0 c1 d0 d1 d2 d3 d4 d5) (own_nx (own_t c0 c1 d0 d1 d2 d3 d4 d5) (own_nx (own_t c0 c1 d0 d1 d2 d3 d4 d5) 97))))), .unset, .unset, .unset, .unset, .unset]) rfl) ?_
        show own_Go p e below _ (T_69.setTop (mkF m 237 #[.val (.long q1), .second, .val (.long q2), .second, .val (.long q3), .second, .val (.int p4), .val (.int c0), .val (.int c1), .val (.int d0), .val (.int d1), .val (.int d2), .val (.int d3), .val (.int d4), .val (.int d5), .val (.int (p4 &&& (3 : Int32))), .val (.ref b_40), .val (.int zp), .val (.int (Int32.ofNat (own_nx (own_t c0 c1 d0 d1 d2 d3 d4 d5) (own_nx (own_t c0 c1 d0 d1 d2 d3 d4 d5) (own_nx (own_t c0 c1 d0 d1 d2 d3 d4 d5) 97))))), .unset, .unset, .unset, .unset, .unset] []))
        refine own_iload X_69 hx (hb hby at_237) (q := 239) rfl rfl ?_
        have kj_70 : ∀ (T_71 : State) (L_72 : List Loc) (x : Nat) (hx1 : x = own_it (own_t c0 c1 d0 d1 d2 d3 d4 d5) 100 0) (X_74 : Stand p l e room_1 (s.setVm s.vm) m #[(.long q1), (.long q2), (.long q3), (.int p4)] below meth c T_71 L_72 1 103) (e_74 : T_71.heap = h_49) (N_74 : Fr n0 L_72), own_Go p e below (fun o U' => ∃ v L, o = .returned v ∧ Q0 Z q1 q2 q3 p4 cz sf h0 n0 v U'.heap L U'.vm ∧ ReturnedEndW s o U' L room_1.cells room_1.slots) (T_71.setTop (mkF m 251 #[.val (.long q1), .second, .val (.long q2), .second, .val (.long q3), .second, .val (.int p4), .val (.int c0), .val (.int c1), .val (.int d0), .val (.int d1), .val (.int d2), .val (.int d3), .val (.int d4), .val (.int d5), .val (.int (p4 &&& (3 : Int32))), .val (.ref b_40), .val (.int zp), .val (.int (Int32.ofNat x)), .unset, .unset, .unset, .unset, .unset] [])) := by
          intro T_71 L_72 x hx1 X_74 e_74 N_74
          have hx3 : 100 ≤ x := by have q := own_min (cs := (own_t c0 c1 d0 d1 d2 d3 d4 d5)) 100 (by omega); omega
          have hx4 : x ≤ 103 := by have q := own_itle (cs := (own_t c0 c1 d0 d1 d2 d3 d4 d5)) 100; omega
          refine own_bipush X_74 hx (hb hby at_251) (q := 253) (z := (100 : Int32)) rfl rfl ?_
          obtain ⟨T_75, h_75, k_75, X_75, e_75, E_75, A_75, st_75⟩ := newP X_74 hx hZ (own_w hw 8 rfl) e_74 (g := (mkF m 253 #[.val (.long q1), .second, .val (.long q2), .second, .val (.long q3), .second, .val (.int p4), .val (.int c0), .val (.int c1), .val (.int d0), .val (.int d1), .val (.int d2), .val (.int d3), .val (.int d4), .val (.int d5), .val (.int (p4 &&& (3 : Int32))), .val (.ref b_40), .val (.int zp), .val (.int (Int32.ofNat x)), .unset, .unset, .unset, .unset, .unset] [(.int (100 : Int32))])) rfl (hb hby at_253) rfl (by decide) (cap := 100) (by decide) (by decide) (by decide) (by decide)
          obtain ⟨b_75, g_75⟩ : ∃ z, z = h_49.size := ⟨_, rfl⟩
          rw [← g_75] at A_75 st_75
          have V_75 : Arv Z h_75 b_75 k_75 .char (100 : Int32) [] (.int (0 : Int32)) := Arv.new A_75 (by decide)
          refine own_via st_75 ?_
          show own_Go p e below _ (T_75.setTop (mkF m 255 #[.val (.long q1), .second, .val (.long q2), .second, .val (.long q3), .second, .val (.int p4), .val (.int c0), .val (.int c1), .val (.int d0), .val (.int d1), .val (.int d2), .val (.int d3), .val (.int d4), .val (.int d5), .val (.int (p4 &&& (3 : Int32))), .val (.ref b_40), .val (.int zp), .val (.int (Int32.ofNat x)), .unset, .unset, .unset, .unset, .unset] [(.ref b_75)]))
          have V_76 : Arv Z h_75 b_75 k_75 .char (Int32.ofNat 100) (List.replicate 100 (.int (0 : Int32))) (.int (0 : Int32)) := V_75.pad (pad_rep [] (.int (0 : Int32)) 100)
          refine own_via (fun _ => XS.astore X_75.here hx rfl (hb hby at_255) rfl rfl (l' := #[.val (.long q1), .second, .val (.long q2), .second, .val (.long q3), .second, .val (.int p4), .val (.int c0), .val (.int c1), .val (.int d0), .val (.int d1), .val (.int d2), .val (.int d3), .val (.int d4), .val (.int d5), .val (.int (p4 &&& (3 : Int32))), .val (.ref b_40), .val (.int zp), .val (.int (Int32.ofNat x)), .val (.ref b_75), .unset, .unset, .unset, .unset]) rfl) ?_
          show own_Go p e below _ (T_75.setTop (mkF m 257 #[.val (.long q1), .second, .val (.long q2), .second, .val (.long q3), .second, .val (.int p4), .val (.int c0), .val (.int c1), .val (.int d0), .val (.int d1), .val (.int d2), .val (.int d3), .val (.int d4), .val (.int d5), .val (.int (p4 &&& (3 : Int32))), .val (.ref b_40), .val (.int zp), .val (.int (Int32.ofNat x)), .val (.ref b_75), .unset, .unset, .unset, .unset] []))
          have ne_77 : b_75 ≠ b_40 := (Ne.symm (Nat.ne_of_lt (Nat.lt_of_lt_of_le V_50.lt (Nat.le_of_eq g_75.symm))))
          refine own_bipush X_75 hx (hb hby at_257) (q := 259) (z := (101 : Int32)) rfl rfl ?_
          obtain ⟨T_78, h_78, k_78, X_78, e_78, E_78, A_78, st_78⟩ := newP X_75 hx hZ (own_w hw 8 rfl) e_75 (g := (mkF m 259 #[.val (.long q1), .second, .val (.long q2), .second, .val (.long q3), .second, .val (.int p4), .val (.int c0), .val (.int c1), .val (.int d0), .val (.int d1), .val (.int d2), .val (.int d3), .val (.int d4), .val (.int d5), .val (.int (p4 &&& (3 : Int32))), .val (.ref b_40), .val (.int zp), .val (.int (Int32.ofNat x)), .val (.ref b_75), .unset, .unset, .unset, .unset] [(.int (101 : Int32))])) rfl (hb hby at_259) rfl (by decide) (cap := 101) (by decide) (by decide) (by decide) (by decide)
          obtain ⟨b_78, g_78⟩ : ∃ z, z = h_75.size := ⟨_, rfl⟩
          rw [← g_78] at A_78 st_78
          have V_78 : Arv Z h_78 b_78 k_78 .char (101 : Int32) [] (.int (0 : Int32)) := Arv.new A_78 (by decide)
          refine own_via st_78 ?_
          show own_Go p e below _ (T_78.setTop (mkF m 261 #[.val (.long q1), .second, .val (.long q2), .second, .val (.long q3), .second, .val (.int p4), .val (.int c0), .val (.int c1), .val (.int d0), .val (.int d1), .val (.int d2), .val (.int d3), .val (.int d4), .val (.int d5), .val (.int (p4 &&& (3 : Int32))), .val (.ref b_40), .val (.int zp), .val (.int (Int32.ofNat x)), .val (.ref b_75), .unset, .unset, .unset, .unset] [(.ref b_78)]))
          have V_79 : Arv Z h_78 b_78 k_78 .char (Int32.ofNat 101) (List.replicate 101 (.int (0 : Int32))) (.int (0 : Int32)) := V_78.pad (pad_rep [] (.int (0 : Int32)) 101)
          refine own_via (fun _ => XS.astore X_78.here hx rfl (hb hby at_261) rfl rfl (l' := #[.val (.long q1), .second, .val (.long q2), .second, .val (.long q3), .second, .val (.int p4), .val (.int c0), .val (.int c1), .val (.int d0), .val (.int d1), .val (.int d2), .val (.int d3), .val (.int d4), .val (.int d5), .val (.int (p4 &&& (3 : Int32))), .val (.ref b_40), .val (.int zp), .val (.int (Int32.ofNat x)), .val (.ref b_75), .val (.ref b_78), .unset, .unset, .unset]) rfl) ?_
          show own_Go p e below _ (T_78.setTop (mkF m 263 #[.val (.long q1), .second, .val (.long q2), .second, .val (.long q3), .second, .val (.int p4), .val (.int c0), .val (.int c1), .val (.int d0), .val (.int d1), .val (.int d2), .val (.int d3), .val (.int d4), .val (.int d5), .val (.int (p4 &&& (3 : Int32))), .val (.ref b_40), .val (.int zp), .val (.int (Int32.ofNat x)), .val (.ref b_75), .val (.ref b_78), .unset, .unset, .unset] []))
          have K_81 : Keep h_49 h_75 [] := (Keep.refl h_49 []).ext E_75
          have ne_80 : b_78 ≠ b_40 := (Ne.symm (Nat.ne_of_lt (Nat.lt_of_lt_of_le (Nat.lt_of_lt_of_le V_50.lt K_81.1) (Nat.le_of_eq g_78.symm))))
          have ne_82 : b_78 ≠ b_75 := (Ne.symm (Nat.ne_of_lt (Nat.lt_of_lt_of_le V_76.lt (Nat.le_of_eq g_78.symm))))
          refine own_bipush X_78 hx (hb hby at_263) (q := 265) (z := (102 : Int32)) rfl rfl ?_
          obtain ⟨T_83, h_83, k_83, X_83, e_83, E_83, A_83, st_83⟩ := newP X_78 hx hZ (own_w hw 8 rfl) e_78 (g := (mkF m 265 #[.val (.long q1), .second, .val (.long q2), .second, .val (.long q3), .second, .val (.int p4), .val (.int c0), .val (.int c1), .val (.int d0), .val (.int d1), .val (.int d2), .val (.int d3), .val (.int d4), .val (.int d5), .val (.int (p4 &&& (3 : Int32))), .val (.ref b_40), .val (.int zp), .val (.int (Int32.ofNat x)), .val (.ref b_75), .val (.ref b_78), .unset, .unset, .unset] [(.int (102 : Int32))])) rfl (hb hby at_265) rfl (by decide) (cap := 102) (by decide) (by decide) (by decide) (by decide)
          obtain ⟨b_83, g_83⟩ : ∃ z, z = h_78.size := ⟨_, rfl⟩
          rw [← g_83] at A_83 st_83
          have V_83 : Arv Z h_83 b_83 k_83 .char (102 : Int32) [] (.int (0 : Int32)) := Arv.new A_83 (by decide)
          refine own_via st_83 ?_
          show own_Go p e below _ (T_83.setTop (mkF m 267 #[.val (.long q1), .second, .val (.long q2), .second, .val (.long q3), .second, .val (.int p4), .val (.int c0), .val (.int c1), .val (.int d0), .val (.int d1), .val (.int d2), .val (.int d3), .val (.int d4), .val (.int d5), .val (.int (p4 &&& (3 : Int32))), .val (.ref b_40), .val (.int zp), .val (.int (Int32.ofNat x)), .val (.ref b_75), .val (.ref b_78), .unset, .unset, .unset] [(.ref b_83)]))
          have V_84 : Arv Z h_83 b_83 k_83 .char (Int32.ofNat 102) (List.replicate 102 (.int (0 : Int32))) (.int (0 : Int32)) := V_83.pad (pad_rep [] (.int (0 : Int32)) 102)
          refine own_via (fun _ => XS.astore X_83.here hx rfl (hb hby at_267) rfl rfl (l' := #[.val (.long q1), .second, .val (.long q2), .second, .val (.long q3), .second, .val (.int p4), .val (.int c0), .val (.int c1), .val (.int d0), .val (.int d1), .val (.int d2), .val (.int d3), .val (.int d4), .val (.int d5), .val (.int (p4 &&& (3 : Int32))), .val (.ref b_40), .val (.int zp), .val (.int (Int32.ofNat x)), .val (.ref b_75), .val (.ref b_78), .val (.ref b_83), .unset, .unset]) rfl) ?_
          show own_Go p e below _ (T_83.setTop (mkF m 269 #[.val (.long q1), .second, .val (.long q2), .second, .val (.long q3), .second, .val (.int p4), .val (.int c0), .val (.int c1), .val (.int d0), .val (.int d1), .val (.int d2), .val (.int d3), .val (.int d4), .val (.int d5), .val (.int (p4 &&& (3 : Int32))), .val (.ref b_40), .val (.int zp), .val (.int (Int32.ofNat x)), .val (.ref b_75), .val (.ref b_78), .val (.ref b_83), .unset, .unset] []))
          have K_86 : Keep h_49 h_78 [] := K_81.ext E_78
          have ne_85 : b_83 ≠ b_40 := (Ne.symm (Nat.ne_of_lt (Nat.lt_of_lt_of_le (Nat.lt_of_lt_of_le V_50.lt K_86.1) (Nat.le_of_eq g_83.symm))))
          have K_88 : Keep h_75 h_78 [] := (Keep.refl h_75 []).ext E_78
          have ne_87 : b_83 ≠ b_75 := (Ne.symm (Nat.ne_of_lt (Nat.lt_of_lt_of_le (Nat.lt_of_lt_of_le V_76.lt K_88.1) (Nat.le_of_eq g_83.symm))))
          have ne_89 : b_83 ≠ b_78 := (Ne.symm (Nat.ne_of_lt (Nat.lt_of_lt_of_le V_79.lt (Nat.le_of_eq g_83.symm))))
          refine own_aload X_83 hx (hb hby at_269) (q := 271) rfl rfl rfl ?_
          refine own_aload X_83 hx (hb hby at_271) (q := 273) rfl rfl rfl ?_
          have K_90 : Keep h_75 h_83 [] := K_88.ext E_83
          have K_91 : Keep h_49 h_83 [] := K_86.ext E_83
          have K_92 : Keep h0 h_75 [] := K_59.ext E_75
          have K_93 : Keep h0 h_78 [] := K_92.ext E_78
          have K_94 : Keep h0 h_83 [] := K_93.ext E_83
          obtain ⟨_, _, ⟨T_95, L_95, k_95, n_95⟩, -, X_95, ⟨Lc_95, hQ_95, l_95, y_95, z_95⟩, st_95⟩ := Jvm.LawKit.callS X_83 hx (y := (⟨"com/example/tender/tender/mailbox/MailAbstractOfPinLaw", "copyKey", "([C[C)V"⟩ : MethodName)) hown (mvT hZ (own_w hw 19 rfl)) (mvT hZ (own_w hw 20 rfl)) (mvT hZ (own_w hw 2 rfl)) (mvT hZ (own_w hw 21 rfl)) (by decide) (backOf (W := 0) (rmck100 l Z a0 hw [] b_75 k_75 b_40 k_40 c0 c1 d0 d1 d2 d3 d4 d5 h_83 n0 (Nat.le_trans Z0 K_94.1) (V_76.keep K_90 nin0) (V_50.keep K_91 nin0) (Nat.le_trans Z0 (Nat.le_trans K_59.1 (Nat.le_of_eq g_75.symm))) (Ne.symm ne_77) q_1_0 q_2_0 q_3_0 q_4_0 q_5_0 q_6_0 q_7_0 q_8_0) hZ (own_w hw 21 rfl) (own_w hw 2 rfl) (by decide) (by decide)) (g := (mkF m 273 #[.val (.long q1), .second, .val (.long q2), .second, .val (.long q3), .second, .val (.int p4), .val (.int c0), .val (.int c1), .val (.int d0), .val (.int d1), .val (.int d2), .val (.int d3), .val (.int d4), .val (.int d5), .val (.int (p4 &&& (3 : Int32))), .val (.ref b_40), .val (.int zp), .val (.int (Int32.ofNat x)), .val (.ref b_75), .val (.ref b_78), .val (.ref b_83), .unset, .unset] [(.ref b_40), (.ref b_75)])) rfl (by rw [hml]; rfl) (argsL := [(.ref b_75), (.ref b_40)]) (rest := []) (lenOf pd_35 rfl) rfl (by show 2 * 0 + _ ≤ _; exact Nat.le_of_eq rfl) (hb hby at_273) (fun _ _ => ⟨rfl, e_83, (by decide : 4 + 0 ≤ _), (by decide : 406 + 0 ≤ _)⟩)
          dsimp only [Pt.U, Pt.locs, Pt.cells, Pt.slots] at X_95 l_95 y_95 z_95 st_95 hQ_95
          subst l_95 y_95 z_95
          obtain ⟨rfl, Nq_95, K_95q, q_95_0⟩ := hQ_95
          have N_95 := Fr.app N_74 Nq_95
          refine own_via st_95 ?_
          show own_Go p e below _ (T_95.setTop (mkF m 276 #[.val (.long q1), .second, .val (.long q2), .second, .val (.long q3), .second, .val (.int p4), .val (.int c0), .val (.int c1), .val (.int d0), .val (.int d1), .val (.int d2), .val (.int d3), .val (.int d4), .val (.int d5), .val (.int (p4 &&& (3 : Int32))), .val (.ref b_40), .val (.int zp), .val (.int (Int32.ofNat x)), .val (.ref b_75), .val (.ref b_78), .val (.ref b_83), .unset, .unset] []))
          refine own_aload X_95 hx (hb hby at_276) (q := 278) rfl rfl rfl ?_
          refine own_aload X_95 hx (hb hby at_278) (q := 280) rfl rfl rfl ?_
          have K_96 : Keep h_78 h_83 [] := (Keep.refl h_78 []).ext E_83
          have K_97 : Keep h_78 T_95.heap [b_75] := Keep.trans (ws := [b_75]) (own_keep_mono K_96 (by simp)) K_95q (allS (Or.inl (List.mem_of_getElem? (i := 0) rfl)) all0)
          have K_98 : Keep h_49 T_95.heap [] := Keep.trans (ws := []) K_91 K_95q (allS (Or.inr (Nat.le_of_eq g_75.symm)) all0)
          have K_99 : Keep h0 T_95.heap [] := Keep.trans (ws := []) K_94 K_95q (allS (Or.inr (Nat.le_trans K_59.1 (Nat.le_of_eq g_75.symm))) all0)
          obtain ⟨_, _, ⟨T_100, L_100, k_100, n_100⟩, -, X_100, ⟨Lc_100, hQ_100, l_100, y_100, z_100⟩, st_100⟩ := Jvm.LawKit.callS X_95 hx (y := (⟨"com/example/tender/tender/mailbox/MailAbstractOfPinLaw", "copyKey", "([C[C)V"⟩ : MethodName)) hown (mvT hZ (own_w hw 19 rfl)) (mvT hZ (own_w hw 20 rfl)) (mvT hZ (own_w hw 2 rfl)) (mvT hZ (own_w hw 21 rfl)) (by decide) (backOf (W := 0) (rmck101 l Z a0 hw [] b_78 k_78 b_40 k_40 c0 c1 d0 d1 d2 d3 d4 d5 T_95.heap n0 (Nat.le_trans Z0 K_99.1) (V_79.keep K_97 (ninS ne_82 nin0)) (V_50.keep K_98 nin0) (Nat.le_trans Z0 (Nat.le_trans K_92.1 (Nat.le_of_eq g_78.symm))) (Ne.symm ne_80) q_1_0 q_2_0 q_3_0 q_4_0 q_5_0 q_6_0 q_7_0 q_8_0) hZ (own_w hw 21 rfl) (own_w hw 2 rfl) (by decide) (by decide)) (g := (mkF m 280 #[.val (.long q1), .second, .val (.long q2), .second, .val (.long q3), .second, .val (.int p4), .val (.int c0), .val (.int c1), .val (.int d0), .val (.int d1), .val (.int d2), .val (.int d3), .val (.int d4), .val (.int d5), .val (.int (p4 &&& (3 : Int32))), .val (.ref b_40), .val (.int zp), .val (.int (Int32.ofNat x)), .val (.ref b_75), .val (.ref b_78), .val (.ref b_83), .unset, .unset] [(.ref b_40), (.ref b_78)])) rfl (by rw [hml]; rfl) (argsL := [(.ref b_78), (.ref b_40)]) (rest := []) (lenOf pd_35 rfl) rfl (by show 2 * 0 + _ ≤ _; exact Nat.le_of_eq rfl) (hb hby at_280) (fun _ _ => ⟨rfl, rfl, (by decide : 4 + 0 ≤ _), (by decide : 406 + 0 ≤ _)⟩)
          dsimp only [Pt.U, Pt.locs, Pt.cells, Pt.slots] at X_100 l_100 y_100 z_100 st_100 hQ_100
          subst l_100 y_100 z_100
          obtain ⟨rfl, Nq_100, K_100q, q_100_0⟩ := hQ_100
          have N_100 := Fr.app N_95 Nq_100
          refine own_via st_100 ?_
          show own_Go p e below _ (T_100.setTop (mkF m 283 #[.val (.long q1), .second, .val (.long q2), .second, .val (.long q3), .second, .val (.int p4), .val (.int c0), .val (.int c1), .val (.int d0), .val (.int d1), .val (.int d2), .val (.int d3), .val (.int d4), .val (.int d5), .val (.int (p4 &&& (3 : Int32))), .val (.ref b_40), .val (.int zp), .val (.int (Int32.ofNat x)), .val (.ref b_75), .val (.ref b_78), .val (.ref b_83), .unset, .unset] []))
          refine own_aload X_100 hx (hb hby at_283) (q := 285) rfl rfl rfl ?_
          refine own_aload X_100 hx (hb hby at_285) (q := 287) rfl rfl rfl ?_
          have K_101 : Keep h_83 T_95.heap [b_75] := Keep.trans (ws := [b_75]) (own_keep_mono (Keep.refl h_83 []) (by simp)) K_95q (allS (Or.inl (List.mem_of_getElem? (i := 0) rfl)) all0)
          have K_102 : Keep h_83 T_100.heap [b_75, b_78] := Keep.trans (ws := [b_75, b_78]) (own_keep_mono K_101 (by simp)) K_100q (allS (Or.inl (List.mem_of_getElem? (i := 1) rfl)) all0)
          have K_103 : Keep h_49 T_100.heap [] := Keep.trans (ws := []) K_98 K_100q (allS (Or.inr (Nat.le_trans K_81.1 (Nat.le_of_eq g_78.symm))) all0)
          have K_104 : Keep h0 T_100.heap [] := Keep.trans (ws := []) K_99 K_100q (allS (Or.inr (Nat.le_trans K_92.1 (Nat.le_of_eq g_78.symm))) all0)
          obtain ⟨_, _, ⟨T_105, L_105, k_105, n_105⟩, -, X_105, ⟨Lc_105, hQ_105, l_105, y_105, z_105⟩, st_105⟩ := Jvm.LawKit.callS X_100 hx (y := (⟨"com/example/tender/tender/mailbox/MailAbstractOfPinLaw", "copyKey", "([C[C)V"⟩ : MethodName)) hown (mvT hZ (own_w hw 19 rfl)) (mvT hZ (own_w hw 20 rfl)) (mvT hZ (own_w hw 2 rfl)) (mvT hZ (own_w hw 21 rfl)) (by decide) (backOf (W := 0) (rmck102 l Z a0 hw [] b_83 k_83 b_40 k_40 c0 c1 d0 d1 d2 d3 d4 d5 T_100.heap n0 (Nat.le_trans Z0 K_104.1) (V_84.keep K_102 (ninS ne_87 (ninS ne_89 nin0))) (V_50.keep K_103 nin0) (Nat.le_trans Z0 (Nat.le_trans K_93.1 (Nat.le_of_eq g_83.symm))) (Ne.symm ne_85) q_1_0 q_2_0 q_3_0 q_4_0 q_5_0 q_6_0 q_7_0 q_8_0) hZ (own_w hw 21 rfl) (own_w hw 2 rfl) (by decide) (by decide)) (g := (mkF m 287 #[.val (.long q1), .second, .val (.long q2), .second, .val (.long q3), .second, .val (.int p4), .val (.int c0), .val (.int c1), .val (.int d0), .val (.int d1), .val (.int d2), .val (.int d3), .val (.int d4), .val (.int d5), .val (.int (p4 &&& (3 : Int32))), .val (.ref b_40), .val (.int zp), .val (.int (Int32.ofNat x)), .val (.ref b_75), .val (.ref b_78), .val (.ref b_83), .unset, .unset] [(.ref b_40), (.ref b_83)])) rfl (by rw [hml]; rfl) (argsL := [(.ref b_83), (.ref b_40)]) (rest := []) (lenOf pd_35 rfl) rfl (by show 2 * 0 + _ ≤ _; exact Nat.le_of_eq rfl) (hb hby at_287) (fun _ _ => ⟨rfl, rfl, (by decide : 4 + 0 ≤ _), (by decide : 406 + 0 ≤ _)⟩)
          dsimp only [Pt.U, Pt.locs, Pt.cells, Pt.slots] at X_105 l_105 y_105 z_105 st_105 hQ_105
          subst l_105 y_105 z_105
          obtain ⟨rfl, Nq_105, K_105q, q_105_0⟩ := hQ_105
          have N_105 := Fr.app N_100 Nq_105
          refine own_via st_105 ?_
          show own_Go p e below _ (T_105.setTop (mkF m 290 #[.val (.long q1), .second, .val (.long q2), .second, .val (.long q3), .second, .val (.int p4), .val (.int c0), .val (.int c1), .val (.int d0), .val (.int d1), .val (.int d2), .val (.int d3), .val (.int d4), .val (.int d5), .val (.int (p4 &&& (3 : Int32))), .val (.ref b_40), .val (.int zp), .val (.int (Int32.ofNat x)), .val (.ref b_75), .val (.ref b_78), .val (.ref b_83), .unset, .unset] []))
          refine own_iload X_105 hx (hb hby at_290) (q := 292) rfl rfl ?_
          refine own_bipush X_105 hx (hb hby at_292) (q := 294) (z := (100 : Int32)) rfl rfl ?_
          by_cases hxe : x = 100
          · refine own_via (fun _ => XS.icmpNo X_105.here hx rfl (hb hby at_294) rfl (teq ((own_eq (i := x) (j := 100) (by omega) (by decide)).mpr hxe : (Int32.ofNat x) = (100 : Int32))).2) ?_
            show own_Go p e below _ (T_105.setTop (mkF m 297 #[.val (.long q1), .second, .val (.long q2), .second, .val (.long q3), .second, .val (.int p4), .val (.int c0), .val (.int c1), .val (.int d0), .val (.int d1), .val (.int d2), .val (.int d3), .val (.int d4), .val (.int d5), .val (.int (p4 &&& (3 : Int32))), .val (.ref b_40), .val (.int zp), .val (.int (Int32.ofNat x)), .val (.ref b_75), .val (.ref b_78), .val (.ref b_83), .unset, .unset] []))
            obtain ⟨T_106, h_106, X_106, e_106, E_106, A_106, D_106, -, st_106⟩ := newO X_105 hx hZ hown (own_w hw 22 rfl) (own_w hw 23 rfl) (own_w hw 24 rfl) rfl (g := (mkF m 297 #[.val (.long q1), .second, .val (.long q2), .second, .val (.long q3), .second, .val (.int p4), .val (.int c0), .val (.int c1), .val (.int d0), .val (.int d1), .val (.int d2), .val (.int d3), .val (.int d4), .val (.int d5), .val (.int (p4 &&& (3 : Int32))), .val (.ref b_40), .val (.int zp), .val (.int (Int32.ofNat x)), .val (.ref b_75), .val (.ref b_78), .val (.ref b_83), .unset, .unset] [])) rfl (hb hby at_297) (by decide) (by decide)
            obtain ⟨b_106, g_106⟩ : ∃ z, z = T_105.heap.size := ⟨_, rfl⟩
            rw [← g_106] at A_106 D_106 st_106
            have F_107 : Fld Z h_106 b_106 "java/lang/String" "coder" "B" (.int (0 : Int32)) := D_106 (Or.inr (own_w hw 67 rfl)) (ty := .byte) (by decide)
            have F_108 : Fld Z h_106 b_106 "java/lang/String" "value" "[B" .null := D_106 (Or.inr (own_w hw 69 rfl)) (ty := (.array .byte)) (by decide)
            refine own_via st_106 ?_
            show own_Go p e below _ (T_106.setTop (mkF m 300 #[.val (.long q1), .second, .val (.long q2), .second, .val (.long q3), .second, .val (.int p4), .val (.int c0), .val (.int c1), .val (.int d0), .val (.int d1), .val (.int d2), .val (.int d3), .val (.int d4), .val (.int d5), .val (.int (p4 &&& (3 : Int32))), .val (.ref b_40), .val (.int zp), .val (.int (Int32.ofNat x)), .val (.ref b_75), .val (.ref b_78), .val (.ref b_83), .unset, .unset] [(.ref b_106)]))
            refine own_dup X_106 hx (hb hby at_300) (q := 301) rfl rfl ?_
            refine own_aload X_106 hx (hb hby at_301) (q := 303) rfl rfl rfl ?_
            have K_109 : Keep T_95.heap T_100.heap [b_78] := Keep.trans (ws := [b_78]) (own_keep_mono (Keep.refl T_95.heap []) (by simp)) K_100q (allS (Or.inl (List.mem_of_getElem? (i := 0) rfl)) all0)
            have K_110 : Keep T_95.heap T_105.heap [b_78, b_83] := Keep.trans (ws := [b_78, b_83]) (own_keep_mono K_109 (by simp)) K_105q (allS (Or.inl (List.mem_of_getElem? (i := 1) rfl)) all0)
            have K_111 : Keep T_95.heap h_106 [b_78, b_83] := K_110.ext E_106
            have V_112 : Arv Z h_106 b_75 k_75 .char (Int32.ofNat ((own_t c0 c1 d0 d1 d2 d3 d4 d5).take 100).length) (((own_t c0 c1 d0 d1 d2 d3 d4 d5).take 100).map Value.int) (.int (0 : Int32)) := by rw [own_tlen (by rw [htl]; decide)]; exact (q_95_0.keep K_111 (ninS (Ne.symm ne_82) (ninS (Ne.symm ne_87) nin0)))
            have K_113 : Keep h0 T_105.heap [] := Keep.trans (ws := []) K_104 K_105q (allS (Or.inr (Nat.le_trans K_93.1 (Nat.le_of_eq g_83.symm))) all0)
            have K_114 : Keep h0 h_106 [] := K_113.ext E_106
            obtain ⟨_, _, ⟨T_115, L_115, k_115, n_115⟩, -, X_115, ⟨Lc_115, hQ_115, l_115, y_115, z_115⟩, st_115⟩ := X_106.specialBack hx (y := (⟨"java/lang/String", "<init>", "([C)V"⟩ : MethodName)) rfl hown (mvT hZ (own_w hw 25 rfl)) (mvT hZ (own_w hw 26 rfl)) (mvT hZ (own_w hw 27 rfl)) (by decide) (backOf (W := 1) (rmstrC l Z a0 hw [] b_106 b_75 k_75 ((own_t c0 c1 d0 d1 d2 d3 d4 d5).take 100) cz h_106 n0 (Nat.le_trans Z0 K_114.1) (O0.keep K_114 all0) Sad Shi Slo Scs hcs A_106 F_108 F_107 (Nat.le_trans Z0 (Nat.le_trans K_113.1 (Nat.le_of_eq g_106.symm))) V_112 (by rw [own_tlen (by rw [htl]; decide)]; decide) (own_tal hp) (by rw [own_tlen (by rw [htl]; decide)]; decide)) hZ (own_w hw 27 rfl) (own_w hw 24 rfl) (by decide) (by decide)) (g := (mkF m 303 #[.val (.long q1), .second, .val (.long q2), .second, .val (.long q3), .second, .val (.int p4), .val (.int c0), .val (.int c1), .val (.int d0), .val (.int d1), .val (.int d2), .val (.int d3), .val (.int d4), .val (.int d5), .val (.int (p4 &&& (3 : Int32))), .val (.ref b_40), .val (.int zp), .val (.int (Int32.ofNat x)), .val (.ref b_75), .val (.ref b_78), .val (.ref b_83), .unset, .unset] [(.ref b_75), (.ref b_106), (.ref b_106)])) rfl (by rw [hml]; rfl) (Steps.refl _) (a := b_106) (argsL := [(.ref b_75)]) (rest := [(.ref b_106)]) (lenOf pd_33 rfl) rfl (by show 2 * 0 + _ ≤ _; exact Nat.le_of_eq rfl) (hb hby at_303) (fun _ _ => ⟨rfl, e_106, (by decide : 5 + 2 ≤ _), (by decide : 410 + 309 ≤ _)⟩)
            dsimp only [Pt.U, Pt.locs, Pt.cells, Pt.slots] at X_115 l_115 y_115 z_115 st_115 hQ_115
            subst l_115 y_115 z_115
            obtain ⟨rfl, Nq_115, K_115q, q_115_0⟩ := hQ_115
            have N_115 := Fr.app N_105 Nq_115
            refine own_via (fun _ k => st_115.trans k) ?_
            show own_Go p e below _ (T_115.setTop (mkF m 306 #[.val (.long q1), .second, .val (.long q2), .second, .val (.long q3), .second, .val (.int p4), .val (.int c0), .val (.int c1), .val (.int d0), .val (.int d1), .val (.int d2), .val (.int d3), .val (.int d4), .val (.int d5), .val (.int (p4 &&& (3 : Int32))), .val (.ref b_40), .val (.int zp), .val (.int (Int32.ofNat x)), .val (.ref b_75), .val (.ref b_78), .val (.ref b_83), .unset, .unset] [(.ref b_106)]))
            refine own_via (fun _ => XS.astore X_115.here hx rfl (hb hby at_306) rfl rfl (l' := #[.val (.long q1), .second, .val (.long q2), .second, .val (.long q3), .second, .val (.int p4), .val (.int c0), .val (.int c1), .val (.int d0), .val (.int d1), .val (.int d2), .val (.int d3), .val (.int d4), .val (.int d5), .val (.int (p4 &&& (3 : Int32))), .val (.ref b_40), .val (.int zp), .val (.int (Int32.ofNat x)), .val (.ref b_75), .val (.ref b_78), .val (.ref b_83), .val (.ref b_106), .unset]) rfl) ?_
            show own_Go p e below _ (T_115.setTop (mkF m 308 #[.val (.long q1), .second, .val (.long q2), .second, .val (.long q3), .second, .val (.int p4), .val (.int c0), .val (.int c1), .val (.int d0), .val (.int d1), .val (.int d2), .val (.int d3), .val (.int d4), .val (.int d5), .val (.int (p4 &&& (3 : Int32))), .val (.ref b_40), .val (.int zp), .val (.int (Int32.ofNat x)), .val (.ref b_75), .val (.ref b_78), .val (.ref b_83), .val (.ref b_106), .unset] []))
            refine own_via (fun _ => XS.goto X_115.here hx rfl (pc0 := 308) (pc' := 364) rfl (hb hby at_308) (by decide) (by decide)) ?_
            show own_Go p e below _ (T_115.setTop (mkF m 364 #[.val (.long q1), .second, .val (.long q2), .second, .val (.long q3), .second, .val (.int p4), .val (.int c0), .val (.int c1), .val (.int d0), .val (.int d1), .val (.int d2), .val (.int d3), .val (.int d4), .val (.int d5), .val (.int (p4 &&& (3 : Int32))), .val (.ref b_40), .val (.int zp), .val (.int (Int32.ofNat x)), .val (.ref b_75), .val (.ref b_78), .val (.ref b_83), .val (.ref b_106), .unset] []))
            obtain ⟨T_116, h_116, X_116, e_116, E_116, A_116, D_116, -, st_116⟩ := newO X_115 hx hZ hown (own_w hw 22 rfl) (own_w hw 23 rfl) (own_w hw 24 rfl) rfl (g := (mkF m 364 #[.val (.long q1), .second, .val (.long q2), .second, .val (.long q3), .second, .val (.int p4), .val (.int c0), .val (.int c1), .val (.int d0), .val (.int d1), .val (.int d2), .val (.int d3), .val (.int d4), .val (.int d5), .val (.int (p4 &&& (3 : Int32))), .val (.ref b_40), .val (.int zp), .val (.int (Int32.ofNat x)), .val (.ref b_75), .val (.ref b_78), .val (.ref b_83), .val (.ref b_106), .unset] [])) rfl (hb hby at_364) (by decide) (by decide)
            obtain ⟨b_116, g_116⟩ : ∃ z, z = T_115.heap.size := ⟨_, rfl⟩
            rw [← g_116] at A_116 D_116 st_116
            have F_117 : Fld Z h_116 b_116 "java/lang/String" "coder" "B" (.int (0 : Int32)) := D_116 (Or.inr (own_w hw 67 rfl)) (ty := .byte) (by decide)
            have F_118 : Fld Z h_116 b_116 "java/lang/String" "value" "[B" .null := D_116 (Or.inr (own_w hw 69 rfl)) (ty := (.array .byte)) (by decide)
            refine own_via st_116 ?_
            show own_Go p e below _ (T_116.setTop (mkF m 367 #[.val (.long q1), .second, .val (.long q2), .second, .val (.long q3), .second, .val (.int p4), .val (.int c0), .val (.int c1), .val (.int d0), .val (.int d1), .val (.int d2), .val (.int d3), .val (.int d4), .val (.int d5), .val (.int (p4 &&& (3 : Int32))), .val (.ref b_40), .val (.int zp), .val (.int (Int32.ofNat x)), .val (.ref b_75), .val (.ref b_78), .val (.ref b_83), .val (.ref b_106), .unset] [(.ref b_116)]))
            refine own_dup X_116 hx (hb hby at_367) (q := 368) rfl rfl ?_
            refine own_aload X_116 hx (hb hby at_368) (q := 370) rfl rfl rfl ?_
            have K_120 : Keep h_49 T_105.heap [] := Keep.trans (ws := []) K_103 K_105q (allS (Or.inr (Nat.le_trans K_86.1 (Nat.le_of_eq g_83.symm))) all0)
            have K_121 : Keep h_49 h_106 [] := K_120.ext E_106
            have K_122 : Keep h_49 T_115.heap [] := Keep.trans (ws := []) K_121 K_115q (allS (Or.inr (Nat.le_trans K_120.1 (Nat.le_of_eq g_106.symm))) all0)
            have K_123 : Keep h_49 h_116 [] := K_122.ext E_116
            have V_119 : Arv Z h_116 b_40 k_40 .char (Int32.ofNat (own_t c0 c1 d0 d1 d2 d3 d4 d5).length) ((own_t c0 c1 d0 d1 d2 d3 d4 d5).map Value.int) (.int (0 : Int32)) := by rw [htl]; exact (V_50.keep K_123 nin0)
            have K_124 : Keep h0 T_115.heap [] := Keep.trans (ws := []) K_114 K_115q (allS (Or.inr (Nat.le_trans K_113.1 (Nat.le_of_eq g_106.symm))) all0)
            have K_125 : Keep h0 h_116 [] := K_124.ext E_116
            obtain ⟨_, _, ⟨T_126, L_126, k_126, n_126⟩, -, X_126, ⟨Lc_126, hQ_126, l_126, y_126, z_126⟩, st_126⟩ := X_116.specialBack hx (y := (⟨"java/lang/String", "<init>", "([C)V"⟩ : MethodName)) rfl hown (mvT hZ (own_w hw 25 rfl)) (mvT hZ (own_w hw 26 rfl)) (mvT hZ (own_w hw 27 rfl)) (by decide) (backOf (W := 1) (rmstrC l Z a0 hw [] b_116 b_40 k_40 (own_t c0 c1 d0 d1 d2 d3 d4 d5) cz h_116 n0 (Nat.le_trans Z0 K_125.1) (O0.keep K_125 all0) Sad Shi Slo Scs hcs A_116 F_118 F_117 (Nat.le_trans Z0 (Nat.le_trans K_124.1 (Nat.le_of_eq g_116.symm))) V_119 (by omega) hp (by omega)) hZ (own_w hw 27 rfl) (own_w hw 24 rfl) (by decide) (by decide)) (g := (mkF m 370 #[.val (.long q1), .second, .val (.long q2), .second, .val (.long q3), .second, .val (.int p4), .val (.int c0), .val (.int c1), .val (.int d0), .val (.int d1), .val (.int d2), .val (.int d3), .val (.int d4), .val (.int d5), .val (.int (p4 &&& (3 : Int32))), .val (.ref b_40), .val (.int zp), .val (.int (Int32.ofNat x)), .val (.ref b_75), .val (.ref b_78), .val (.ref b_83), .val (.ref b_106), .unset] [(.ref b_40), (.ref b_116), (.ref b_116)])) rfl (by rw [hml]; rfl) (Steps.refl _) (a := b_116) (argsL := [(.ref b_40)]) (rest := [(.ref b_116)]) (lenOf pd_33 rfl) rfl (by show 2 * 0 + _ ≤ _; exact Nat.le_of_eq rfl) (hb hby at_370) (fun _ _ => ⟨rfl, e_116, (by decide : 8 + 2 ≤ _), (by decide : 723 + 309 ≤ _)⟩)
            dsimp only [Pt.U, Pt.locs, Pt.cells, Pt.slots] at X_126 l_126 y_126 z_126 st_126 hQ_126
            subst l_126 y_126 z_126
            obtain ⟨rfl, Nq_126, K_126q, q_126_0⟩ := hQ_126
            have N_126 := Fr.app N_115 Nq_126
            refine own_via (fun _ k => st_126.trans k) ?_
            show own_Go p e below _ (T_126.setTop (mkF m 373 #[.val (.long q1), .second, .val (.long q2), .second, .val (.long q3), .second, .val (.int p4), .val (.int c0), .val (.int c1), .val (.int d0), .val (.int d1), .val (.int d2), .val (.int d3), .val (.int d4), .val (.int d5), .val (.int (p4 &&& (3 : Int32))), .val (.ref b_40), .val (.int zp), .val (.int (Int32.ofNat x)), .val (.ref b_75), .val (.ref b_78), .val (.ref b_83), .val (.ref b_106), .unset] [(.ref b_116)]))
            refine own_via (fun _ => XS.astore X_126.here hx rfl (hb hby at_373) rfl rfl (l' := #[.val (.long q1), .second, .val (.long q2), .second, .val (.long q3), .second, .val (.int p4), .val (.int c0), .val (.int c1), .val (.int d0), .val (.int d1), .val (.int d2), .val (.int d3), .val (.int d4), .val (.int d5), .val (.int (p4 &&& (3 : Int32))), .val (.ref b_40), .val (.int zp), .val (.int (Int32.ofNat x)), .val (.ref b_75), .val (.ref b_78), .val (.ref b_83), .val (.ref b_106), .val (.ref b_116)]) rfl) ?_
            show own_Go p e below _ (T_126.setTop (mkF m 375 #[.val (.long q1), .second, .val (.long q2), .second, .val (.long q3), .second, .val (.int p4), .val (.int c0), .val (.int c1), .val (.int d0), .val (.int d1), .val (.int d2), .val (.int d3), .val (.int d4), .val (.int d5), .val (.int (p4 &&& (3 : Int32))), .val (.ref b_40), .val (.int zp), .val (.int (Int32.ofNat x)), .val (.ref b_75), .val (.ref b_78), .val (.ref b_83), .val (.ref b_106), .val (.ref b_116)] []))
            refine own_aload X_126 hx (hb hby at_375) (q := 377) rfl rfl rfl ?_
            have K_127 : Keep h0 T_126.heap [] := Keep.trans (ws := []) K_125 K_126q (allS (Or.inr (Nat.le_trans K_124.1 (Nat.le_of_eq g_116.symm))) all0)
            obtain ⟨_, _, ⟨T_128, L_128, k_128, n_128⟩, -, X_128, ⟨Lc_128, hQ_128, l_128, y_128, z_128⟩, st_128⟩ := Jvm.LawKit.callS X_126 hx (y := (⟨"com/example/tender/tender/mailbox/MailAbstract", "of", "(Ljava/lang/String;)Ljava/lang/String;"⟩ : MethodName)) hown (mvT hZ (own_w hw 70 rfl)) (mvT hZ (own_w hw 71 rfl)) (mvT hZ (own_w hw 72 rfl)) (mvT hZ (own_w hw 73 rfl)) (by decide) (backOf (W := 0) (rmof l Z a0 hw [] b_116 (own_t c0 c1 d0 d1 d2 d3 d4 d5) cz sf T_126.heap n0 (Nat.le_trans Z0 K_127.1) (O0.keep K_127 all0) Sad Shi Slo Scs hcs Ssf hsf q_126_0) hZ (own_w hw 73 rfl) (own_w hw 72 rfl) (by decide) (by decide)) (g := (mkF m 377 #[.val (.long q1), .second, .val (.long q2), .second, .val (.long q3), .second, .val (.int p4), .val (.int c0), .val (.int c1), .val (.int d0), .val (.int d1), .val (.int d2), .val (.int d3), .val (.int d4), .val (.int d5), .val (.int (p4 &&& (3 : Int32))), .val (.ref b_40), .val (.int zp), .val (.int (Int32.ofNat x)), .val (.ref b_75), .val (.ref b_78), .val (.ref b_83), .val (.ref b_106), .val (.ref b_116)] [(.ref b_116)])) rfl (by rw [hml]; rfl) (argsL := [(.ref b_116)]) (rest := []) (lenOf pd_31 rfl) rfl (by show 2 * 0 + _ ≤ _; exact Nat.le_of_eq rfl) (hb hby at_377) (fun _ _ => ⟨rfl, rfl, (by decide : 10 + 3 ≤ _), (by decide : 1032 + 313 ≤ _)⟩)
            dsimp only [Pt.U, Pt.locs, Pt.cells, Pt.slots] at X_128 l_128 y_128 z_128 st_128 hQ_128
            subst l_128 y_128 z_128
            obtain ⟨r_129, rfl, Nq_128, K_128q, q_128_0⟩ := hQ_128
            have N_128 := Fr.app N_126 Nq_128
            refine own_via st_128 ?_
            show own_Go p e below _ (T_128.setTop (mkF m 380 #[.val (.long q1), .second, .val (.long q2), .second, .val (.long q3), .second, .val (.int p4), .val (.int c0), .val (.int c1), .val (.int d0), .val (.int d1), .val (.int d2), .val (.int d3), .val (.int d4), .val (.int d5), .val (.int (p4 &&& (3 : Int32))), .val (.ref b_40), .val (.int zp), .val (.int (Int32.ofNat x)), .val (.ref b_75), .val (.ref b_78), .val (.ref b_83), .val (.ref b_106), .val (.ref b_116)] [(.ref r_129)]))
            refine own_aload X_128 hx (hb hby at_380) (q := 382) rfl rfl rfl ?_
            have K_131 : Keep h0 T_128.heap [] := Keep.trans (ws := []) K_127 K_128q all0
            have K_132 : Keep T_115.heap h_116 [] := (Keep.refl T_115.heap []).ext E_116
            have K_133 : Keep T_115.heap T_126.heap [] := Keep.trans (ws := []) K_132 K_126q (allS (Or.inr (Nat.le_of_eq g_116.symm)) all0)
            have K_134 : Keep T_115.heap T_128.heap [] := Keep.trans (ws := []) K_133 K_128q all0
            obtain ⟨E_130a, ⟨t_130a, k_130a, cd_130a, N_130a, vs_130a, C_130a, V_130a, K_130a, hC_130a⟩, p_130a, l_130a⟩ := q_128_0
            obtain ⟨E_130b, ⟨t_130b, k_130b, cd_130b, N_130b, vs_130b, C_130b, V_130b, K_130b, hC_130b⟩, p_130b, l_130b⟩ := (q_115_0.keep0 K_134)
            obtain ⟨cq_135, kq_135, q_135a, q_135b, q_135c⟩ := isOf hZ rfl E_130a
            obtain ⟨_, _, ⟨T_135, L_135, k_135, n_135⟩, -, X_135, ⟨Lc_135, hQ_135, l_135, y_135, z_135⟩, st_135⟩ := X_128.virtualBack hx (y := (⟨"java/lang/String", "equals", "(Ljava/lang/Object;)Z"⟩ : MethodName)) (z := (⟨"java/lang/String", "equals", "(Ljava/lang/Object;)Z"⟩ : MethodName)) hown (mvT hZ (own_w hw 192 rfl)) (mvT hZ (own_w hw 193 rfl)) (notFace_of_selects (args := #[]) (mvT hZ (own_w hw 195 rfl))) (mvT hZ (own_w hw 195 rfl)) (mvT hZ (own_w hw 194 rfl)) (by decide) (StrChars.Road.eqW (W := 0) hZ (own_hwordsEq hw) (kI := 4) (own_w hw 23 rfl) E_130a V_130a C_130a K_130a hC_130a p_130a (by omega) E_130b V_130b C_130b K_130b hC_130b p_130b (by omega) (Scs.ext (O0.keep K_131 all0).2) hcs (by decide) (by decide)) q_135a q_135c (g := (mkF m 382 #[.val (.long q1), .second, .val (.long q2), .second, .val (.long q3), .second, .val (.int p4), .val (.int c0), .val (.int c1), .val (.int d0), .val (.int d1), .val (.int d2), .val (.int d3), .val (.int d4), .val (.int d5), .val (.int (p4 &&& (3 : Int32))), .val (.ref b_40), .val (.int zp), .val (.int (Int32.ofNat x)), .val (.ref b_75), .val (.ref b_78), .val (.ref b_83), .val (.ref b_106), .val (.ref b_116)] [(.ref b_106), (.ref r_129)])) rfl (by rw [hml]; rfl) (Steps.refl _) (argsL := [(.ref b_106)]) (rest := []) (lenOf pd_32 rfl) rfl (by show 2 * 0 + _ ≤ _; exact Nat.le_of_eq rfl) (hb hby at_382) (fun _ _ => ⟨rfl, rfl, (by decide : 13 + 0 ≤ _), (by decide : 1345 + 0 ≤ _)⟩)
            dsimp only [Pt.U, Pt.locs, Pt.cells, Pt.slots] at X_135 l_135 y_135 z_135 st_135 hQ_135
            subst l_135 y_135 z_135
            obtain ⟨hv_135, rfl, e_135⟩ := hQ_135
            have N_135 := Fr.app N_128 (Fr.nil n0)
            rcases hv_135 with ⟨rfl, hq_135⟩ | ⟨rfl, hq_135⟩
            · refine own_via (fun _ k => st_135.trans k) ?_
              show own_Go p e below _ (T_135.setTop (mkF m 385 #[.val (.long q1), .second, .val (.long q2), .second, .val (.long q3), .second, .val (.int p4), .val (.int c0), .val (.int c1), .val (.int d0), .val (.int d1), .val (.int d2), .val (.int d3), .val (.int d4), .val (.int d5), .val (.int (p4 &&& (3 : Int32))), .val (.ref b_40), .val (.int zp), .val (.int (Int32.ofNat x)), .val (.ref b_75), .val (.ref b_78), .val (.ref b_83), .val (.ref b_106), .val (.ref b_116)] [(.int (1 : Int32))]))
              exact own_retvW X_135 hS0 (by rw [e_135]; exact (Nat.le_trans (Nat.zero_le _) K_131.1)) Bd.notSynchronized hx Bd.returns rfl (Or.inl ⟨rfl, (by simp), _, rfl⟩) (hb hby at_385) (by decide) (by decide) (by rw [e_135]; exact ⟨rfl, N_135, K_131⟩)
            · exact absurd (by rw [← hx1, hxe]) hq_135
          · have hxn100 := hxe
            clear hxe
            refine own_via (fun _ => XS.icmpYes X_105.here hx rfl (pc0 := 294) (pc' := 311) rfl (hb hby at_294) rfl (feq (fun q => hxn100 ((own_eq (i := x) (j := 100) (by omega) (by decide)).mp q) : ¬ ((Int32.ofNat x) = (100 : Int32)))).2 (by decide) (by decide)) ?_
            show own_Go p e below _ (T_105.setTop (mkF m 311 #[.val (.long q1), .second, .val (.long q2), .second, .val (.long q3), .second, .val (.int p4), .val (.int c0), .val (.int c1), .val (.int d0), .val (.int d1), .val (.int d2), .val (.int d3), .val (.int d4), .val (.int d5), .val (.int (p4 &&& (3 : Int32))), .val (.ref b_40), .val (.int zp), .val (.int (Int32.ofNat x)), .val (.ref b_75), .val (.ref b_78), .val (.ref b_83), .unset, .unset] []))
            refine own_iload X_105 hx (hb hby at_311) (q := 313) rfl rfl ?_
            refine own_bipush X_105 hx (hb hby at_313) (q := 315) (z := (101 : Int32)) rfl rfl ?_
            by_cases hxe : x = 101
            · refine own_via (fun _ => XS.icmpNo X_105.here hx rfl (hb hby at_315) rfl (teq ((own_eq (i := x) (j := 101) (by omega) (by decide)).mpr hxe : (Int32.ofNat x) = (101 : Int32))).2) ?_
              show own_Go p e below _ (T_105.setTop (mkF m 318 #[.val (.long q1), .second, .val (.long q2), .second, .val (.long q3), .second, .val (.int p4), .val (.int c0), .val (.int c1), .val (.int d0), .val (.int d1), .val (.int d2), .val (.int d3), .val (.int d4), .val (.int d5), .val (.int (p4 &&& (3 : Int32))), .val (.ref b_40), .val (.int zp), .val (.int (Int32.ofNat x)), .val (.ref b_75), .val (.ref b_78), .val (.ref b_83), .unset, .unset] []))
              obtain ⟨T_136, h_136, X_136, e_136, E_136, A_136, D_136, -, st_136⟩ := newO X_105 hx hZ hown (own_w hw 22 rfl) (own_w hw 23 rfl) (own_w hw 24 rfl) rfl (g := (mkF m 318 #[.val (.long q1), .second, .val (.long q2), .second, .val (.long q3), .second, .val (.int p4), .val (.int c0), .val (.int c1), .val (.int d0), .val (.int d1), .val (.int d2), .val (.int d3), .val (.int d4), .val (.int d5), .val (.int (p4 &&& (3 : Int32))), .val (.ref b_40), .val (.int zp), .val (.int (Int32.ofNat x)), .val (.ref b_75), .val (.ref b_78), .val (.ref b_83), .unset, .unset] [])) rfl (hb hby at_318) (by decide) (by decide)
              obtain ⟨b_136, g_136⟩ : ∃ z, z = T_105.heap.size := ⟨_, rfl⟩
              rw [← g_136] at A_136 D_136 st_136
              have F_137 : Fld Z h_136 b_136 "java/lang/String" "coder" "B" (.int (0 : Int32)) := D_136 (Or.inr (own_w hw 67 rfl)) (ty := .byte) (by decide)
              have F_138 : Fld Z h_136 b_136 "java/lang/String" "value" "[B" .null := D_136 (Or.inr (own_w hw 69 rfl)) (ty := (.array .byte)) (by decide)
              refine own_via st_136 ?_
              show own_Go p e below _ (T_136.setTop (mkF m 321 #[.val (.long q1), .second, .val (.long q2), .second, .val (.long q3), .second, .val (.int p4), .val (.int c0), .val (.int c1), .val (.int d0), .val (.int d1), .val (.int d2), .val (.int d3), .val (.int d4), .val (.int d5), .val (.int (p4 &&& (3 : Int32))), .val (.ref b_40), .val (.int zp), .val (.int (Int32.ofNat x)), .val (.ref b_75), .val (.ref b_78), .val (.ref b_83), .unset, .unset] [(.ref b_136)]))
              refine own_dup X_136 hx (hb hby at_321) (q := 322) rfl rfl ?_
              refine own_aload X_136 hx (hb hby at_322) (q := 324) rfl rfl rfl ?_
              have K_139 : Keep T_100.heap T_105.heap [b_83] := Keep.trans (ws := [b_83]) (own_keep_mono (Keep.refl T_100.heap []) (by simp)) K_105q (allS (Or.inl (List.mem_of_getElem? (i := 0) rfl)) all0)
              have K_140 : Keep T_100.heap h_136 [b_83] := K_139.ext E_136
              have V_141 : Arv Z h_136 b_78 k_78 .char (Int32.ofNat ((own_t c0 c1 d0 d1 d2 d3 d4 d5).take 101).length) (((own_t c0 c1 d0 d1 d2 d3 d4 d5).take 101).map Value.int) (.int (0 : Int32)) := by rw [own_tlen (by rw [htl]; decide)]; exact (q_100_0.keep K_140 (ninS (Ne.symm ne_89) nin0))
              have K_142 : Keep h0 T_105.heap [] := Keep.trans (ws := []) K_104 K_105q (allS (Or.inr (Nat.le_trans K_93.1 (Nat.le_of_eq g_83.symm))) all0)
              have K_143 : Keep h0 h_136 [] := K_142.ext E_136
              obtain ⟨_, _, ⟨T_144, L_144, k_144, n_144⟩, -, X_144, ⟨Lc_144, hQ_144, l_144, y_144, z_144⟩, st_144⟩ := X_136.specialBack hx (y := (⟨"java/lang/String", "<init>", "([C)V"⟩ : MethodName)) rfl hown (mvT hZ (own_w hw 25 rfl)) (mvT hZ (own_w hw 26 rfl)) (mvT hZ (own_w hw 27 rfl)) (by decide) (backOf (W := 1) (rmstrC l Z a0 hw [] b_136 b_78 k_78 ((own_t c0 c1 d0 d1 d2 d3 d4 d5).take 101) cz h_136 n0 (Nat.le_trans Z0 K_143.1) (O0.keep K_143 all0) Sad Shi Slo Scs hcs A_136 F_138 F_137 (Nat.le_trans Z0 (Nat.le_trans K_142.1 (Nat.le_of_eq g_136.symm))) V_141 (by rw [own_tlen (by rw [htl]; decide)]; decide) (own_tal hp) (by rw [own_tlen (by rw [htl]; decide)]; decide)) hZ (own_w hw 27 rfl) (own_w hw 24 rfl) (by decide) (by decide)) (g := (mkF m 324 #[.val (.long q1), .second, .val (.long q2), .second, .val (.long q3), .second, .val (.int p4), .val (.int c0), .val (.int c1), .val (.int d0), .val (.int d1), .val (.int d2), .val (.int d3), .val (.int d4), .val (.int d5), .val (.int (p4 &&& (3 : Int32))), .val (.ref b_40), .val (.int zp), .val (.int (Int32.ofNat x)), .val (.ref b_75), .val (.ref b_78), .val (.ref b_83), .unset, .unset] [(.ref b_78), (.ref b_136), (.ref b_136)])) rfl (by rw [hml]; rfl) (Steps.refl _) (a := b_136) (argsL := [(.ref b_78)]) (rest := [(.ref b_136)]) (lenOf pd_33 rfl) rfl (by show 2 * 0 + _ ≤ _; exact Nat.le_of_eq rfl) (hb hby at_324) (fun _ _ => ⟨rfl, e_136, (by decide : 5 + 2 ≤ _), (by decide : 410 + 309 ≤ _)⟩)
              dsimp only [Pt.U, Pt.locs, Pt.cells, Pt.slots] at X_144 l_144 y_144 z_144 st_144 hQ_144
              subst l_144 y_144 z_144
              obtain ⟨rfl, Nq_144, K_144q, q_144_0⟩ := hQ_144
              have N_144 := Fr.app N_105 Nq_144
              refine own_via (fun _ k => st_144.trans k) ?_
              show own_Go p e below _ (T_144.setTop (mkF m 327 #[.val (.long q1), .second, .val (.long q2), .second, .val (.long q3), .second, .val (.int p4), .val (.int c0), .val (.int c1), .val (.int d0), .val (.int d1), .val (.int d2), .val (.int d3), .val (.int d4), .val (.int d5), .val (.int (p4 &&& (3 : Int32))), .val (.ref b_40), .val (.int zp), .val (.int (Int32.ofNat x)), .val (.ref b_75), .val (.ref b_78), .val (.ref b_83), .unset, .unset] [(.ref b_136)]))
              refine own_via (fun _ => XS.astore X_144.here hx rfl (hb hby at_327) rfl rfl (l' := #[.val (.long q1), .second, .val (.long q2), .second, .val (.long q3), .second, .val (.int p4), .val (.int c0), .val (.int c1), .val (.int d0), .val (.int d1), .val (.int d2), .val (.int d3), .val (.int d4), .val (.int d5), .val (.int (p4 &&& (3 : Int32))), .val (.ref b_40), .val (.int zp), .val (.int (Int32.ofNat x)), .val (.ref b_75), .val (.ref b_78), .val (.ref b_83), .val (.ref b_136), .unset]) rfl) ?_
              show own_Go p e below _ (T_144.setTop (mkF m 329 #[.val (.long q1), .second, .val (.long q2), .second, .val (.long q3), .second, .val (.int p4), .val (.int c0), .val (.int c1), .val (.int d0), .val (.int d1), .val (.int d2), .val (.int d3), .val (.int d4), .val (.int d5), .val (.int (p4 &&& (3 : Int32))), .val (.ref b_40), .val (.int zp), .val (.int (Int32.ofNat x)), .val (.ref b_75), .val (.ref b_78), .val (.ref b_83), .val (.ref b_136), .unset] []))
              refine own_via (fun _ => XS.goto X_144.here hx rfl (pc0 := 329) (pc' := 364) rfl (hb hby at_329) (by decide) (by decide)) ?_
              show own_Go p e below _ (T_144.setTop (mkF m 364 #[.val (.long q1), .second, .val (.long q2), .second, .val (.long q3), .second, .val (.int p4), .val (.int c0), .val (.int c1), .val (.int d0), .val (.int d1), .val (.int d2), .val (.int d3), .val (.int d4), .val (.int d5), .val (.int (p4 &&& (3 : Int32))), .val (.ref b_40), .val (.int zp), .val (.int (Int32.ofNat x)), .val (.ref b_75), .val (.ref b_78), .val (.ref b_83), .val (.ref b_136), .unset] []))
              obtain ⟨T_145, h_145, X_145, e_145, E_145, A_145, D_145, -, st_145⟩ := newO X_144 hx hZ hown (own_w hw 22 rfl) (own_w hw 23 rfl) (own_w hw 24 rfl) rfl (g := (mkF m 364 #[.val (.long q1), .second, .val (.long q2), .second, .val (.long q3), .second, .val (.int p4), .val (.int c0), .val (.int c1), .val (.int d0), .val (.int d1), .val (.int d2), .val (.int d3), .val (.int d4), .val (.int d5), .val (.int (p4 &&& (3 : Int32))), .val (.ref b_40), .val (.int zp), .val (.int (Int32.ofNat x)), .val (.ref b_75), .val (.ref b_78), .val (.ref b_83), .val (.ref b_136), .unset] [])) rfl (hb hby at_364) (by decide) (by decide)
              obtain ⟨b_145, g_145⟩ : ∃ z, z = T_144.heap.size := ⟨_, rfl⟩
              rw [← g_145] at A_145 D_145 st_145
              have F_146 : Fld Z h_145 b_145 "java/lang/String" "coder" "B" (.int (0 : Int32)) := D_145 (Or.inr (own_w hw 67 rfl)) (ty := .byte) (by decide)
              have F_147 : Fld Z h_145 b_145 "java/lang/String" "value" "[B" .null := D_145 (Or.inr (own_w hw 69 rfl)) (ty := (.array .byte)) (by decide)
              refine own_via st_145 ?_
              show own_Go p e below _ (T_145.setTop (mkF m 367 #[.val (.long q1), .second, .val (.long q2), .second, .val (.long q3), .second, .val (.int p4), .val (.int c0), .val (.int c1), .val (.int d0), .val (.int d1), .val (.int d2), .val (.int d3), .val (.int d4), .val (.int d5), .val (.int (p4 &&& (3 : Int32))), .val (.ref b_40), .val (.int zp), .val (.int (Int32.ofNat x)), .val (.ref b_75), .val (.ref b_78), .val (.ref b_83), .val (.ref b_136), .unset] [(.ref b_145)]))
              refine own_dup X_145 hx (hb hby at_367) (q := 368) rfl rfl ?_
              refine own_aload X_145 hx (hb hby at_368) (q := 370) rfl rfl rfl ?_
              have K_149 : Keep h_49 T_105.heap [] := Keep.trans (ws := []) K_103 K_105q (allS (Or.inr (Nat.le_trans K_86.1 (Nat.le_of_eq g_83.symm))) all0)
              have K_150 : Keep h_49 h_136 [] := K_149.ext E_136
              have K_151 : Keep h_49 T_144.heap [] := Keep.trans (ws := []) K_150 K_144q (allS (Or.inr (Nat.le_trans K_149.1 (Nat.le_of_eq g_136.symm))) all0)
              have K_152 : Keep h_49 h_145 [] := K_151.ext E_145
              have V_148 : Arv Z h_145 b_40 k_40 .char (Int32.ofNat (own_t c0 c1 d0 d1 d2 d3 d4 d5).length) ((own_t c0 c1 d0 d1 d2 d3 d4 d5).map Value.int) (.int (0 : Int32)) := by rw [htl]; exact (V_50.keep K_152 nin0)
              have K_153 : Keep h0 T_144.heap [] := Keep.trans (ws := []) K_143 K_144q (allS (Or.inr (Nat.le_trans K_142.1 (Nat.le_of_eq g_136.symm))) all0)
              have K_154 : Keep h0 h_145 [] := K_153.ext E_145
              obtain ⟨_, _, ⟨T_155, L_155, k_155, n_155⟩, -, X_155, ⟨Lc_155, hQ_155, l_155, y_155, z_155⟩, st_155⟩ := X_145.specialBack hx (y := (⟨"java/lang/String", "<init>", "([C)V"⟩ : MethodName)) rfl hown (mvT hZ (own_w hw 25 rfl)) (mvT hZ (own_w hw 26 rfl)) (mvT hZ (own_w hw 27 rfl)) (by decide) (backOf (W := 1) (rmstrC l Z a0 hw [] b_145 b_40 k_40 (own_t c0 c1 d0 d1 d2 d3 d4 d5) cz h_145 n0 (Nat.le_trans Z0 K_154.1) (O0.keep K_154 all0) Sad Shi Slo Scs hcs A_145 F_147 F_146 (Nat.le_trans Z0 (Nat.le_trans K_153.1 (Nat.le_of_eq g_145.symm))) V_148 (by omega) hp (by omega)) hZ (own_w hw 27 rfl) (own_w hw 24 rfl) (by decide) (by decide)) (g := (mkF m 370 #[.val (.long q1), .second, .val (.long q2), .second, .val (.long q3), .second, .val (.int p4), .val (.int c0), .val (.int c1), .val (.int d0), .val (.int d1), .val (.int d2), .val (.int d3), .val (.int d4), .val (.int d5), .val (.int (p4 &&& (3 : Int32))), .val (.ref b_40), .val (.int zp), .val (.int (Int32.ofNat x)), .val (.ref b_75), .val (.ref b_78), .val (.ref b_83), .val (.ref b_136), .unset] [(.ref b_40), (.ref b_145), (.ref b_145)])) rfl (by rw [hml]; rfl) (Steps.refl _) (a := b_145) (argsL := [(.ref b_40)]) (rest := [(.ref b_145)]) (lenOf pd_33 rfl) rfl (by show 2 * 0 + _ ≤ _; exact Nat.le_of_eq rfl) (hb hby at_370) (fun _ _ => ⟨rfl, e_145, (by decide : 8 + 2 ≤ _), (by decide : 723 + 309 ≤ _)⟩)
              dsimp only [Pt.U, Pt.locs, Pt.cells, Pt.slots] at X_155 l_155 y_155 z_155 st_155 hQ_155
              subst l_155 y_155 z_155
              obtain ⟨rfl, Nq_155, K_155q, q_155_0⟩ := hQ_155
              have N_155 := Fr.app N_144 Nq_155
              refine own_via (fun _ k => st_155.trans k) ?_
              show own_Go p e below _ (T_155.setTop (mkF m 373 #[.val (.long q1), .second, .val (.long q2), .second, .val (.long q3), .second, .val (.int p4), .val (.int c0), .val (.int c1), .val (.int d0), .val (.int d1), .val (.int d2), .val (.int d3), .val (.int d4), .val (.int d5), .val (.int (p4 &&& (3 : Int32))), .val (.ref b_40), .val (.int zp), .val (.int (Int32.ofNat x)), .val (.ref b_75), .val (.ref b_78), .val (.ref b_83), .val (.ref b_136), .unset] [(.ref b_145)]))
              refine own_via (fun _ => XS.astore X_155.here hx rfl (hb hby at_373) rfl rfl (l' := #[.val (.long q1), .second, .val (.long q2), .second, .val (.long q3), .second, .val (.int p4), .val (.int c0), .val (.int c1), .val (.int d0), .val (.int d1), .val (.int d2), .val (.int d3), .val (.int d4), .val (.int d5), .val (.int (p4 &&& (3 : Int32))), .val (.ref b_40), .val (.int zp), .val (.int (Int32.ofNat x)), .val (.ref b_75), .val (.ref b_78), .val (.ref b_83), .val (.ref b_136), .val (.ref b_145)]) rfl) ?_
              show own_Go p e below _ (T_155.setTop (mkF m 375 #[.val (.long q1), .second, .val (.long q2), .second, .val (.long q3), .second, .val (.int p4), .val (.int c0), .val (.int c1), .val (.int d0), .val (.int d1), .val (.int d2), .val (.int d3), .val (.int d4), .val (.int d5), .val (.int (p4 &&& (3 : Int32))), .val (.ref b_40), .val (.int zp), .val (.int (Int32.ofNat x)), .val (.ref b_75), .val (.ref b_78), .val (.ref b_83), .val (.ref b_136), .val (.ref b_145)] []))
              refine own_aload X_155 hx (hb hby at_375) (q := 377) rfl rfl rfl ?_
              have K_156 : Keep h0 T_155.heap [] := Keep.trans (ws := []) K_154 K_155q (allS (Or.inr (Nat.le_trans K_153.1 (Nat.le_of_eq g_145.symm))) all0)
              obtain ⟨_, _, ⟨T_157, L_157, k_157, n_157⟩, -, X_157, ⟨Lc_157, hQ_157, l_157, y_157, z_157⟩, st_157⟩ := Jvm.LawKit.callS X_155 hx (y := (⟨"com/example/tender/tender/mailbox/MailAbstract", "of", "(Ljava/lang/String;)Ljava/lang/String;"⟩ : MethodName)) hown (mvT hZ (own_w hw 70 rfl)) (mvT hZ (own_w hw 71 rfl)) (mvT hZ (own_w hw 72 rfl)) (mvT hZ (own_w hw 73 rfl)) (by decide) (backOf (W := 0) (rmof l Z a0 hw [] b_145 (own_t c0 c1 d0 d1 d2 d3 d4 d5) cz sf T_155.heap n0 (Nat.le_trans Z0 K_156.1) (O0.keep K_156 all0) Sad Shi Slo Scs hcs Ssf hsf q_155_0) hZ (own_w hw 73 rfl) (own_w hw 72 rfl) (by decide) (by decide)) (g := (mkF m 377 #[.val (.long q1), .second, .val (.long q2), .second, .val (.long q3), .second, .val (.int p4), .val (.int c0), .val (.int c1), .val (.int d0), .val (.int d1), .val (.int d2), .val (.int d3), .val (.int d4), .val (.int d5), .val (.int (p4 &&& (3 : Int32))), .val (.ref b_40), .val (.int zp), .val (.int (Int32.ofNat x)), .val (.ref b_75), .val (.ref b_78), .val (.ref b_83), .val (.ref b_136), .val (.ref b_145)] [(.ref b_145)])) rfl (by rw [hml]; rfl) (argsL := [(.ref b_145)]) (rest := []) (lenOf pd_31 rfl) rfl (by show 2 * 0 + _ ≤ _; exact Nat.le_of_eq rfl) (hb hby at_377) (fun _ _ => ⟨rfl, rfl, (by decide : 10 + 3 ≤ _), (by decide : 1032 + 313 ≤ _)⟩)
              dsimp only [Pt.U, Pt.locs, Pt.cells, Pt.slots] at X_157 l_157 y_157 z_157 st_157 hQ_157
              subst l_157 y_157 z_157
              obtain ⟨r_158, rfl, Nq_157, K_157q, q_157_0⟩ := hQ_157
              have N_157 := Fr.app N_155 Nq_157
              refine own_via st_157 ?_
              show own_Go p e below _ (T_157.setTop (mkF m 380 #[.val (.long q1), .second, .val (.long q2), .second, .val (.long q3), .second, .val (.int p4), .val (.int c0), .val (.int c1), .val (.int d0), .val (.int d1), .val (.int d2), .val (.int d3), .val (.int d4), .val (.int d5), .val (.int (p4 &&& (3 : Int32))), .val (.ref b_40), .val (.int zp), .val (.int (Int32.ofNat x)), .val (.ref b_75), .val (.ref b_78), .val (.ref b_83), .val (.ref b_136), .val (.ref b_145)] [(.ref r_158)]))
              refine own_aload X_157 hx (hb hby at_380) (q := 382) rfl rfl rfl ?_
              have K_160 : Keep h0 T_157.heap [] := Keep.trans (ws := []) K_156 K_157q all0
              have K_161 : Keep T_144.heap h_145 [] := (Keep.refl T_144.heap []).ext E_145
              have K_162 : Keep T_144.heap T_155.heap [] := Keep.trans (ws := []) K_161 K_155q (allS (Or.inr (Nat.le_of_eq g_145.symm)) all0)
              have K_163 : Keep T_144.heap T_157.heap [] := Keep.trans (ws := []) K_162 K_157q all0
              obtain ⟨E_159a, ⟨t_159a, k_159a, cd_159a, N_159a, vs_159a, C_159a, V_159a, K_159a, hC_159a⟩, p_159a, l_159a⟩ := q_157_0
              obtain ⟨E_159b, ⟨t_159b, k_159b, cd_159b, N_159b, vs_159b, C_159b, V_159b, K_159b, hC_159b⟩, p_159b, l_159b⟩ := (q_144_0.keep0 K_163)
              obtain ⟨cq_164, kq_164, q_164a, q_164b, q_164c⟩ := isOf hZ rfl E_159a
              obtain ⟨_, _, ⟨T_164, L_164, k_164, n_164⟩, -, X_164, ⟨Lc_164, hQ_164, l_164, y_164, z_164⟩, st_164⟩ := X_157.virtualBack hx (y := (⟨"java/lang/String", "equals", "(Ljava/lang/Object;)Z"⟩ : MethodName)) (z := (⟨"java/lang/String", "equals", "(Ljava/lang/Object;)Z"⟩ : MethodName)) hown (mvT hZ (own_w hw 192 rfl)) (mvT hZ (own_w hw 193 rfl)) (notFace_of_selects (args := #[]) (mvT hZ (own_w hw 195 rfl))) (mvT hZ (own_w hw 195 rfl)) (mvT hZ (own_w hw 194 rfl)) (by decide) (StrChars.Road.eqW (W := 0) hZ (own_hwordsEq hw) (kI := 4) (own_w hw 23 rfl) E_159a V_159a C_159a K_159a hC_159a p_159a (by omega) E_159b V_159b C_159b K_159b hC_159b p_159b (by omega) (Scs.ext (O0.keep K_160 all0).2) hcs (by decide) (by decide)) q_164a q_164c (g := (mkF m 382 #[.val (.long q1), .second, .val (.long q2), .second, .val (.long q3), .second, .val (.int p4), .val (.int c0), .val (.int c1), .val (.int d0), .val (.int d1), .val (.int d2), .val (.int d3), .val (.int d4), .val (.int d5), .val (.int (p4 &&& (3 : Int32))), .val (.ref b_40), .val (.int zp), .val (.int (Int32.ofNat x)), .val (.ref b_75), .val (.ref b_78), .val (.ref b_83), .val (.ref b_136), .val (.ref b_145)] [(.ref b_136), (.ref r_158)])) rfl (by rw [hml]; rfl) (Steps.refl _) (argsL := [(.ref b_136)]) (rest := []) (lenOf pd_32 rfl) rfl (by show 2 * 0 + _ ≤ _; exact Nat.le_of_eq rfl) (hb hby at_382) (fun _ _ => ⟨rfl, rfl, (by decide : 13 + 0 ≤ _), (by decide : 1345 + 0 ≤ _)⟩)
              dsimp only [Pt.U, Pt.locs, Pt.cells, Pt.slots] at X_164 l_164 y_164 z_164 st_164 hQ_164
              subst l_164 y_164 z_164
              obtain ⟨hv_164, rfl, e_164⟩ := hQ_164
              have N_164 := Fr.app N_157 (Fr.nil n0)
              rcases hv_164 with ⟨rfl, hq_164⟩ | ⟨rfl, hq_164⟩
              · refine own_via (fun _ k => st_164.trans k) ?_
                show own_Go p e below _ (T_164.setTop (mkF m 385 #[.val (.long q1), .second, .val (.long q2), .second, .val (.long q3), .second, .val (.int p4), .val (.int c0), .val (.int c1), .val (.int d0), .val (.int d1), .val (.int d2), .val (.int d3), .val (.int d4), .val (.int d5), .val (.int (p4 &&& (3 : Int32))), .val (.ref b_40), .val (.int zp), .val (.int (Int32.ofNat x)), .val (.ref b_75), .val (.ref b_78), .val (.ref b_83), .val (.ref b_136), .val (.ref b_145)] [(.int (1 : Int32))]))
                exact own_retvW X_164 hS0 (by rw [e_164]; exact (Nat.le_trans (Nat.zero_le _) K_160.1)) Bd.notSynchronized hx Bd.returns rfl (Or.inl ⟨rfl, (by simp), _, rfl⟩) (hb hby at_385) (by decide) (by decide) (by rw [e_164]; exact ⟨rfl, N_164, K_160⟩)
              · exact absurd (by rw [← hx1, hxe]) hq_164
            · have hxn101 := hxe
              clear hxe
              refine own_via (fun _ => XS.icmpYes X_105.here hx rfl (pc0 := 315) (pc' := 332) rfl (hb hby at_315) rfl (feq (fun q => hxn101 ((own_eq (i := x) (j := 101) (by omega) (by decide)).mp q) : ¬ ((Int32.ofNat x) = (101 : Int32)))).2 (by decide) (by decide)) ?_
              show own_Go p e below _ (T_105.setTop (mkF m 332 #[.val (.long q1), .second, .val (.long q2), .second, .val (.long q3), .second, .val (.int p4), .val (.int c0), .val (.int c1), .val (.int d0), .val (.int d1), .val (.int d2), .val (.int d3), .val (.int d4), .val (.int d5), .val (.int (p4 &&& (3 : Int32))), .val (.ref b_40), .val (.int zp), .val (.int (Int32.ofNat x)), .val (.ref b_75), .val (.ref b_78), .val (.ref b_83), .unset, .unset] []))
              refine own_iload X_105 hx (hb hby at_332) (q := 334) rfl rfl ?_
              refine own_bipush X_105 hx (hb hby at_334) (q := 336) (z := (102 : Int32)) rfl rfl ?_
              by_cases hxe : x = 102
              · refine own_via (fun _ => XS.icmpNo X_105.here hx rfl (hb hby at_336) rfl (teq ((own_eq (i := x) (j := 102) (by omega) (by decide)).mpr hxe : (Int32.ofNat x) = (102 : Int32))).2) ?_
                show own_Go p e below _ (T_105.setTop (mkF m 339 #[.val (.long q1), .second, .val (.long q2), .second, .val (.long q3), .second, .val (.int p4), .val (.int c0), .val (.int c1), .val (.int d0), .val (.int d1), .val (.int d2), .val (.int d3), .val (.int d4), .val (.int d5), .val (.int (p4 &&& (3 : Int32))), .val (.ref b_40), .val (.int zp), .val (.int (Int32.ofNat x)), .val (.ref b_75), .val (.ref b_78), .val (.ref b_83), .unset, .unset] []))
                obtain ⟨T_165, h_165, X_165, e_165, E_165, A_165, D_165, -, st_165⟩ := newO X_105 hx hZ hown (own_w hw 22 rfl) (own_w hw 23 rfl) (own_w hw 24 rfl) rfl (g := (mkF m 339 #[.val (.long q1), .second, .val (.long q2), .second, .val (.long q3), .second, .val (.int p4), .val (.int c0), .val (.int c1), .val (.int d0), .val (.int d1), .val (.int d2), .val (.int d3), .val (.int d4), .val (.int d5), .val (.int (p4 &&& (3 : Int32))), .val (.ref b_40), .val (.int zp), .val (.int (Int32.ofNat x)), .val (.ref b_75), .val (.ref b_78), .val (.ref b_83), .unset, .unset] [])) rfl (hb hby at_339) (by decide) (by decide)
                obtain ⟨b_165, g_165⟩ : ∃ z, z = T_105.heap.size := ⟨_, rfl⟩
                rw [← g_165] at A_165 D_165 st_165
                have F_166 : Fld Z h_165 b_165 "java/lang/String" "coder" "B" (.int (0 : Int32)) := D_165 (Or.inr (own_w hw 67 rfl)) (ty := .byte) (by decide)
                have F_167 : Fld Z h_165 b_165 "java/lang/String" "value" "[B" .null := D_165 (Or.inr (own_w hw 69 rfl)) (ty := (.array .byte)) (by decide)
                refine own_via st_165 ?_
                show own_Go p e below _ (T_165.setTop (mkF m 342 #[.val (.long q1), .second, .val (.long q2), .second, .val (.long q3), .second, .val (.int p4), .val (.int c0), .val (.int c1), .val (.int d0), .val (.int d1), .val (.int d2), .val (.int d3), .val (.int d4), .val (.int d5), .val (.int (p4 &&& (3 : Int32))), .val (.ref b_40), .val (.int zp), .val (.int (Int32.ofNat x)), .val (.ref b_75), .val (.ref b_78), .val (.ref b_83), .unset, .unset] [(.ref b_165)]))
                refine own_dup X_165 hx (hb hby at_342) (q := 343) rfl rfl ?_
                refine own_aload X_165 hx (hb hby at_343) (q := 345) rfl rfl rfl ?_
                have K_168 : Keep T_105.heap h_165 [] := (Keep.refl T_105.heap []).ext E_165
                have V_169 : Arv Z h_165 b_83 k_83 .char (Int32.ofNat ((own_t c0 c1 d0 d1 d2 d3 d4 d5).take 102).length) (((own_t c0 c1 d0 d1 d2 d3 d4 d5).take 102).map Value.int) (.int (0 : Int32)) := by rw [own_tlen (by rw [htl]; decide)]; exact (q_105_0.keep K_168 nin0)
                have K_170 : Keep h0 T_105.heap [] := Keep.trans (ws := []) K_104 K_105q (allS (Or.inr (Nat.le_trans K_93.1 (Nat.le_of_eq g_83.symm))) all0)
                have K_171 : Keep h0 h_165 [] := K_170.ext E_165
                obtain ⟨_, _, ⟨T_172, L_172, k_172, n_172⟩, -, X_172, ⟨Lc_172, hQ_172, l_172, y_172, z_172⟩, st_172⟩ := X_165.specialBack hx (y := (⟨"java/lang/String", "<init>", "([C)V"⟩ : MethodName)) rfl hown (mvT hZ (own_w hw 25 rfl)) (mvT hZ (own_w hw 26 rfl)) (mvT hZ (own_w hw 27 rfl)) (by decide) (backOf (W := 1) (rmstrC l Z a0 hw [] b_165 b_83 k_83 ((own_t c0 c1 d0 d1 d2 d3 d4 d5).take 102) cz h_165 n0 (Nat.le_trans Z0 K_171.1) (O0.keep K_171 all0) Sad Shi Slo Scs hcs A_165 F_167 F_166 (Nat.le_trans Z0 (Nat.le_trans K_170.1 (Nat.le_of_eq g_165.symm))) V_169 (by rw [own_tlen (by rw [htl]; decide)]; decide) (own_tal hp) (by rw [own_tlen (by rw [htl]; decide)]; decide)) hZ (own_w hw 27 rfl) (own_w hw 24 rfl) (by decide) (by decide)) (g := (mkF m 345 #[.val (.long q1), .second, .val (.long q2), .second, .val (.long q3), .second, .val (.int p4), .val (.int c0), .val (.int c1), .val (.int d0), .val (.int d1), .val (.int d2), .val (.int d3), .val (.int d4), .val (.int d5), .val (.int (p4 &&& (3 : Int32))), .val (.ref b_40), .val (.int zp), .val (.int (Int32.ofNat x)), .val (.ref b_75), .val (.ref b_78), .val (.ref b_83), .unset, .unset] [(.ref b_83), (.ref b_165), (.ref b_165)])) rfl (by rw [hml]; rfl) (Steps.refl _) (a := b_165) (argsL := [(.ref b_83)]) (rest := [(.ref b_165)]) (lenOf pd_33 rfl) rfl (by show 2 * 0 + _ ≤ _; exact Nat.le_of_eq rfl) (hb hby at_345) (fun _ _ => ⟨rfl, e_165, (by decide : 5 + 2 ≤ _), (by decide : 410 + 309 ≤ _)⟩)
                dsimp only [Pt.U, Pt.locs, Pt.cells, Pt.slots] at X_172 l_172 y_172 z_172 st_172 hQ_172
                subst l_172 y_172 z_172
                obtain ⟨rfl, Nq_172, K_172q, q_172_0⟩ := hQ_172
                have N_172 := Fr.app N_105 Nq_172
                refine own_via (fun _ k => st_172.trans k) ?_
                show own_Go p e below _ (T_172.setTop (mkF m 348 #[.val (.long q1), .second, .val (.long q2), .second, .val (.long q3), .second, .val (.int p4), .val (.int c0), .val (.int c1), .val (.int d0), .val (.int d1), .val (.int d2), .val (.int d3), .val (.int d4), .val (.int d5), .val (.int (p4 &&& (3 : Int32))), .val (.ref b_40), .val (.int zp), .val (.int (Int32.ofNat x)), .val (.ref b_75), .val (.ref b_78), .val (.ref b_83), .unset, .unset] [(.ref b_165)]))
                refine own_via (fun _ => XS.astore X_172.here hx rfl (hb hby at_348) rfl rfl (l' := #[.val (.long q1), .second, .val (.long q2), .second, .val (.long q3), .second, .val (.int p4), .val (.int c0), .val (.int c1), .val (.int d0), .val (.int d1), .val (.int d2), .val (.int d3), .val (.int d4), .val (.int d5), .val (.int (p4 &&& (3 : Int32))), .val (.ref b_40), .val (.int zp), .val (.int (Int32.ofNat x)), .val (.ref b_75), .val (.ref b_78), .val (.ref b_83), .val (.ref b_165), .unset]) rfl) ?_
                show own_Go p e below _ (T_172.setTop (mkF m 350 #[.val (.long q1), .second, .val (.long q2), .second, .val (.long q3), .second, .val (.int p4), .val (.int c0), .val (.int c1), .val (.int d0), .val (.int d1), .val (.int d2), .val (.int d3), .val (.int d4), .val (.int d5), .val (.int (p4 &&& (3 : Int32))), .val (.ref b_40), .val (.int zp), .val (.int (Int32.ofNat x)), .val (.ref b_75), .val (.ref b_78), .val (.ref b_83), .val (.ref b_165), .unset] []))
                refine own_via (fun _ => XS.goto X_172.here hx rfl (pc0 := 350) (pc' := 364) rfl (hb hby at_350) (by decide) (by decide)) ?_
                show own_Go p e below _ (T_172.setTop (mkF m 364 #[.val (.long q1), .second, .val (.long q2), .second, .val (.long q3), .second, .val (.int p4), .val (.int c0), .val (.int c1), .val (.int d0), .val (.int d1), .val (.int d2), .val (.int d3), .val (.int d4), .val (.int d5), .val (.int (p4 &&& (3 : Int32))), .val (.ref b_40), .val (.int zp), .val (.int (Int32.ofNat x)), .val (.ref b_75), .val (.ref b_78), .val (.ref b_83), .val (.ref b_165), .unset] []))
                obtain ⟨T_173, h_173, X_173, e_173, E_173, A_173, D_173, -, st_173⟩ := newO X_172 hx hZ hown (own_w hw 22 rfl) (own_w hw 23 rfl) (own_w hw 24 rfl) rfl (g := (mkF m 364 #[.val (.long q1), .second, .val (.long q2), .second, .val (.long q3), .second, .val (.int p4), .val (.int c0), .val (.int c1), .val (.int d0), .val (.int d1), .val (.int d2), .val (.int d3), .val (.int d4), .val (.int d5), .val (.int (p4 &&& (3 : Int32))), .val (.ref b_40), .val (.int zp), .val (.int (Int32.ofNat x)), .val (.ref b_75), .val (.ref b_78), .val (.ref b_83), .val (.ref b_165), .unset] [])) rfl (hb hby at_364) (by decide) (by decide)
                obtain ⟨b_173, g_173⟩ : ∃ z, z = T_172.heap.size := ⟨_, rfl⟩
                rw [← g_173] at A_173 D_173 st_173
                have F_174 : Fld Z h_173 b_173 "java/lang/String" "coder" "B" (.int (0 : Int32)) := D_173 (Or.inr (own_w hw 67 rfl)) (ty := .byte) (by decide)
                have F_175 : Fld Z h_173 b_173 "java/lang/String" "value" "[B" .null := D_173 (Or.inr (own_w hw 69 rfl)) (ty := (.array .byte)) (by decide)
                refine own_via st_173 ?_
                show own_Go p e below _ (T_173.setTop (mkF m 367 #[.val (.long q1), .second, .val (.long q2), .second, .val (.long q3), .second, .val (.int p4), .val (.int c0), .val (.int c1), .val (.int d0), .val (.int d1), .val (.int d2), .val (.int d3), .val (.int d4), .val (.int d5), .val (.int (p4 &&& (3 : Int32))), .val (.ref b_40), .val (.int zp), .val (.int (Int32.ofNat x)), .val (.ref b_75), .val (.ref b_78), .val (.ref b_83), .val (.ref b_165), .unset] [(.ref b_173)]))
                refine own_dup X_173 hx (hb hby at_367) (q := 368) rfl rfl ?_
                refine own_aload X_173 hx (hb hby at_368) (q := 370) rfl rfl rfl ?_
                have K_177 : Keep h_49 T_105.heap [] := Keep.trans (ws := []) K_103 K_105q (allS (Or.inr (Nat.le_trans K_86.1 (Nat.le_of_eq g_83.symm))) all0)
                have K_178 : Keep h_49 h_165 [] := K_177.ext E_165
                have K_179 : Keep h_49 T_172.heap [] := Keep.trans (ws := []) K_178 K_172q (allS (Or.inr (Nat.le_trans K_177.1 (Nat.le_of_eq g_165.symm))) all0)
                have K_180 : Keep h_49 h_173 [] := K_179.ext E_173
                have V_176 : Arv Z h_173 b_40 k_40 .char (Int32.ofNat (own_t c0 c1 d0 d1 d2 d3 d4 d5).length) ((own_t c0 c1 d0 d1 d2 d3 d4 d5).map Value.int) (.int (0 : Int32)) := by rw [htl]; exact (V_50.keep K_180 nin0)
                have K_181 : Keep h0 T_172.heap [] := Keep.trans (ws := []) K_171 K_172q (allS (Or.inr (Nat.le_trans K_170.1 (Nat.le_of_eq g_165.symm))) all0)
                have K_182 : Keep h0 h_173 [] := K_181.ext E_173
                obtain ⟨_, _, ⟨T_183, L_183, k_183, n_183⟩, -, X_183, ⟨Lc_183, hQ_183, l_183, y_183, z_183⟩, st_183⟩ := X_173.specialBack hx (y := (⟨"java/lang/String", "<init>", "([C)V"⟩ : MethodName)) rfl hown (mvT hZ (own_w hw 25 rfl)) (mvT hZ (own_w hw 26 rfl)) (mvT hZ (own_w hw 27 rfl)) (by decide) (backOf (W := 1) (rmstrC l Z a0 hw [] b_173 b_40 k_40 (own_t c0 c1 d0 d1 d2 d3 d4 d5) cz h_173 n0 (Nat.le_trans Z0 K_182.1) (O0.keep K_182 all0) Sad Shi Slo Scs hcs A_173 F_175 F_174 (Nat.le_trans Z0 (Nat.le_trans K_181.1 (Nat.le_of_eq g_173.symm))) V_176 (by omega) hp (by omega)) hZ (own_w hw 27 rfl) (own_w hw 24 rfl) (by decide) (by decide)) (g := (mkF m 370 #[.val (.long q1), .second, .val (.long q2), .second, .val (.long q3), .second, .val (.int p4), .val (.int c0), .val (.int c1), .val (.int d0), .val (.int d1), .val (.int d2), .val (.int d3), .val (.int d4), .val (.int d5), .val (.int (p4 &&& (3 : Int32))), .val (.ref b_40), .val (.int zp), .val (.int (Int32.ofNat x)), .val (.ref b_75), .val (.ref b_78), .val (.ref b_83), .val (.ref b_165), .unset] [(.ref b_40), (.ref b_173), (.ref b_173)])) rfl (by rw [hml]; rfl) (Steps.refl _) (a := b_173) (argsL := [(.ref b_40)]) (rest := [(.ref b_173)]) (lenOf pd_33 rfl) rfl (by show 2 * 0 + _ ≤ _; exact Nat.le_of_eq rfl) (hb hby at_370) (fun _ _ => ⟨rfl, e_173, (by decide : 8 + 2 ≤ _), (by decide : 723 + 309 ≤ _)⟩)
                dsimp only [Pt.U, Pt.locs, Pt.cells, Pt.slots] at X_183 l_183 y_183 z_183 st_183 hQ_183
                subst l_183 y_183 z_183
                obtain ⟨rfl, Nq_183, K_183q, q_183_0⟩ := hQ_183
                have N_183 := Fr.app N_172 Nq_183
                refine own_via (fun _ k => st_183.trans k) ?_
                show own_Go p e below _ (T_183.setTop (mkF m 373 #[.val (.long q1), .second, .val (.long q2), .second, .val (.long q3), .second, .val (.int p4), .val (.int c0), .val (.int c1), .val (.int d0), .val (.int d1), .val (.int d2), .val (.int d3), .val (.int d4), .val (.int d5), .val (.int (p4 &&& (3 : Int32))), .val (.ref b_40), .val (.int zp), .val (.int (Int32.ofNat x)), .val (.ref b_75), .val (.ref b_78), .val (.ref b_83), .val (.ref b_165), .unset] [(.ref b_173)]))
                refine own_via (fun _ => XS.astore X_183.here hx rfl (hb hby at_373) rfl rfl (l' := #[.val (.long q1), .second, .val (.long q2), .second, .val (.long q3), .second, .val (.int p4), .val (.int c0), .val (.int c1), .val (.int d0), .val (.int d1), .val (.int d2), .val (.int d3), .val (.int d4), .val (.int d5), .val (.int (p4 &&& (3 : Int32))), .val (.ref b_40), .val (.int zp), .val (.int (Int32.ofNat x)), .val (.ref b_75), .val (.ref b_78), .val (.ref b_83), .val (.ref b_165), .val (.ref b_173)]) rfl) ?_
                show own_Go p e below _ (T_183.setTop (mkF m 375 #[.val (.long q1), .second, .val (.long q2), .second, .val (.long q3), .second, .val (.int p4), .val (.int c0), .val (.int c1), .val (.int d0), .val (.int d1), .val (.int d2), .val (.int d3), .val (.int d4), .val (.int d5), .val (.int (p4 &&& (3 : Int32))), .val (.ref b_40), .val (.int zp), .val (.int (Int32.ofNat x)), .val (.ref b_75), .val (.ref b_78), .val (.ref b_83), .val (.ref b_165), .val (.ref b_173)] []))
                refine own_aload X_183 hx (hb hby at_375) (q := 377) rfl rfl rfl ?_
                have K_184 : Keep h0 T_183.heap [] := Keep.trans (ws := []) K_182 K_183q (allS (Or.inr (Nat.le_trans K_181.1 (Nat.le_of_eq g_173.symm))) all0)
                obtain ⟨_, _, ⟨T_185, L_185, k_185, n_185⟩, -, X_185, ⟨Lc_185, hQ_185, l_185, y_185, z_185⟩, st_185⟩ := Jvm.LawKit.callS X_183 hx (y := (⟨"com/example/tender/tender/mailbox/MailAbstract", "of", "(Ljava/lang/String;)Ljava/lang/String;"⟩ : MethodName)) hown (mvT hZ (own_w hw 70 rfl)) (mvT hZ (own_w hw 71 rfl)) (mvT hZ (own_w hw 72 rfl)) (mvT hZ (own_w hw 73 rfl)) (by decide) (backOf (W := 0) (rmof l Z a0 hw [] b_173 (own_t c0 c1 d0 d1 d2 d3 d4 d5) cz sf T_183.heap n0 (Nat.le_trans Z0 K_184.1) (O0.keep K_184 all0) Sad Shi Slo Scs hcs Ssf hsf q_183_0) hZ (own_w hw 73 rfl) (own_w hw 72 rfl) (by decide) (by decide)) (g := (mkF m 377 #[.val (.long q1), .second, .val (.long q2), .second, .val (.long q3), .second, .val (.int p4), .val (.int c0), .val (.int c1), .val (.int d0), .val (.int d1), .val (.int d2), .val (.int d3), .val (.int d4), .val (.int d5), .val (.int (p4 &&& (3 : Int32))), .val (.ref b_40), .val (.int zp), .val (.int (Int32.ofNat x)), .val (.ref b_75), .val (.ref b_78), .val (.ref b_83), .val (.ref b_165), .val (.ref b_173)] [(.ref b_173)])) rfl (by rw [hml]; rfl) (argsL := [(.ref b_173)]) (rest := []) (lenOf pd_31 rfl) rfl (by show 2 * 0 + _ ≤ _; exact Nat.le_of_eq rfl) (hb hby at_377) (fun _ _ => ⟨rfl, rfl, (by decide : 10 + 3 ≤ _), (by decide : 1032 + 313 ≤ _)⟩)
                dsimp only [Pt.U, Pt.locs, Pt.cells, Pt.slots] at X_185 l_185 y_185 z_185 st_185 hQ_185
                subst l_185 y_185 z_185
                obtain ⟨r_186, rfl, Nq_185, K_185q, q_185_0⟩ := hQ_185
                have N_185 := Fr.app N_183 Nq_185
                refine own_via st_185 ?_
                show own_Go p e below _ (T_185.setTop (mkF m 380 #[.val (.long q1), .second, .val (.long q2), .second, .val (.long q3), .second, .val (.int p4), .val (.int c0), .val (.int c1), .val (.int d0), .val (.int d1), .val (.int d2), .val (.int d3), .val (.int d4), .val (.int d5), .val (.int (p4 &&& (3 : Int32))), .val (.ref b_40), .val (.int zp), .val (.int (Int32.ofNat x)), .val (.ref b_75), .val (.ref b_78), .val (.ref b_83), .val (.ref b_165), .val (.ref b_173)] [(.ref r_186)]))
                refine own_aload X_185 hx (hb hby at_380) (q := 382) rfl rfl rfl ?_
                have K_188 : Keep h0 T_185.heap [] := Keep.trans (ws := []) K_184 K_185q all0
                have K_189 : Keep T_172.heap h_173 [] := (Keep.refl T_172.heap []).ext E_173
                have K_190 : Keep T_172.heap T_183.heap [] := Keep.trans (ws := []) K_189 K_183q (allS (Or.inr (Nat.le_of_eq g_173.symm)) all0)
                have K_191 : Keep T_172.heap T_185.heap [] := Keep.trans (ws := []) K_190 K_185q all0
                obtain ⟨E_187a, ⟨t_187a, k_187a, cd_187a, N_187a, vs_187a, C_187a, V_187a, K_187a, hC_187a⟩, p_187a, l_187a⟩ := q_185_0
                obtain ⟨E_187b, ⟨t_187b, k_187b, cd_187b, N_187b, vs_187b, C_187b, V_187b, K_187b, hC_187b⟩, p_187b, l_187b⟩ := (q_172_0.keep0 K_191)
                obtain ⟨cq_192, kq_192, q_192a, q_192b, q_192c⟩ := isOf hZ rfl E_187a
                obtain ⟨_, _, ⟨T_192, L_192, k_192, n_192⟩, -, X_192, ⟨Lc_192, hQ_192, l_192, y_192, z_192⟩, st_192⟩ := X_185.virtualBack hx (y := (⟨"java/lang/String", "equals", "(Ljava/lang/Object;)Z"⟩ : MethodName)) (z := (⟨"java/lang/String", "equals", "(Ljava/lang/Object;)Z"⟩ : MethodName)) hown (mvT hZ (own_w hw 192 rfl)) (mvT hZ (own_w hw 193 rfl)) (notFace_of_selects (args := #[]) (mvT hZ (own_w hw 195 rfl))) (mvT hZ (own_w hw 195 rfl)) (mvT hZ (own_w hw 194 rfl)) (by decide) (StrChars.Road.eqW (W := 0) hZ (own_hwordsEq hw) (kI := 4) (own_w hw 23 rfl) E_187a V_187a C_187a K_187a hC_187a p_187a (by omega) E_187b V_187b C_187b K_187b hC_187b p_187b (by omega) (Scs.ext (O0.keep K_188 all0).2) hcs (by decide) (by decide)) q_192a q_192c (g := (mkF m 382 #[.val (.long q1), .second, .val (.long q2), .second, .val (.long q3), .second, .val (.int p4), .val (.int c0), .val (.int c1), .val (.int d0), .val (.int d1), .val (.int d2), .val (.int d3), .val (.int d4), .val (.int d5), .val (.int (p4 &&& (3 : Int32))), .val (.ref b_40), .val (.int zp), .val (.int (Int32.ofNat x)), .val (.ref b_75), .val (.ref b_78), .val (.ref b_83), .val (.ref b_165), .val (.ref b_173)] [(.ref b_165), (.ref r_186)])) rfl (by rw [hml]; rfl) (Steps.refl _) (argsL := [(.ref b_165)]) (rest := []) (lenOf pd_32 rfl) rfl (by show 2 * 0 + _ ≤ _; exact Nat.le_of_eq rfl) (hb hby at_382) (fun _ _ => ⟨rfl, rfl, (by decide : 13 + 0 ≤ _), (by decide : 1345 + 0 ≤ _)⟩)
                dsimp only [Pt.U, Pt.locs, Pt.cells, Pt.slots] at X_192 l_192 y_192 z_192 st_192 hQ_192
                subst l_192 y_192 z_192
                obtain ⟨hv_192, rfl, e_192⟩ := hQ_192
                have N_192 := Fr.app N_185 (Fr.nil n0)
                rcases hv_192 with ⟨rfl, hq_192⟩ | ⟨rfl, hq_192⟩
                · refine own_via (fun _ k => st_192.trans k) ?_
                  show own_Go p e below _ (T_192.setTop (mkF m 385 #[.val (.long q1), .second, .val (.long q2), .second, .val (.long q3), .second, .val (.int p4), .val (.int c0), .val (.int c1), .val (.int d0), .val (.int d1), .val (.int d2), .val (.int d3), .val (.int d4), .val (.int d5), .val (.int (p4 &&& (3 : Int32))), .val (.ref b_40), .val (.int zp), .val (.int (Int32.ofNat x)), .val (.ref b_75), .val (.ref b_78), .val (.ref b_83), .val (.ref b_165), .val (.ref b_173)] [(.int (1 : Int32))]))
                  exact own_retvW X_192 hS0 (by rw [e_192]; exact (Nat.le_trans (Nat.zero_le _) K_188.1)) Bd.notSynchronized hx Bd.returns rfl (Or.inl ⟨rfl, (by simp), _, rfl⟩) (hb hby at_385) (by decide) (by decide) (by rw [e_192]; exact ⟨rfl, N_192, K_188⟩)
                · exact absurd (by rw [← hx1, hxe]) hq_192
              · have hxn102 := hxe
                clear hxe
                refine own_via (fun _ => XS.icmpYes X_105.here hx rfl (pc0 := 336) (pc' := 353) rfl (hb hby at_336) rfl (feq (fun q => hxn102 ((own_eq (i := x) (j := 102) (by omega) (by decide)).mp q) : ¬ ((Int32.ofNat x) = (102 : Int32)))).2 (by decide) (by decide)) ?_
                show own_Go p e below _ (T_105.setTop (mkF m 353 #[.val (.long q1), .second, .val (.long q2), .second, .val (.long q3), .second, .val (.int p4), .val (.int c0), .val (.int c1), .val (.int d0), .val (.int d1), .val (.int d2), .val (.int d3), .val (.int d4), .val (.int d5), .val (.int (p4 &&& (3 : Int32))), .val (.ref b_40), .val (.int zp), .val (.int (Int32.ofNat x)), .val (.ref b_75), .val (.ref b_78), .val (.ref b_83), .unset, .unset] []))
                obtain ⟨T_193, h_193, X_193, e_193, E_193, A_193, D_193, -, st_193⟩ := newO X_105 hx hZ hown (own_w hw 22 rfl) (own_w hw 23 rfl) (own_w hw 24 rfl) rfl (g := (mkF m 353 #[.val (.long q1), .second, .val (.long q2), .second, .val (.long q3), .second, .val (.int p4), .val (.int c0), .val (.int c1), .val (.int d0), .val (.int d1), .val (.int d2), .val (.int d3), .val (.int d4), .val (.int d5), .val (.int (p4 &&& (3 : Int32))), .val (.ref b_40), .val (.int zp), .val (.int (Int32.ofNat x)), .val (.ref b_75), .val (.ref b_78), .val (.ref b_83), .unset, .unset] [])) rfl (hb hby at_353) (by decide) (by decide)
                obtain ⟨b_193, g_193⟩ : ∃ z, z = T_105.heap.size := ⟨_, rfl⟩
                rw [← g_193] at A_193 D_193 st_193
                have F_194 : Fld Z h_193 b_193 "java/lang/String" "coder" "B" (.int (0 : Int32)) := D_193 (Or.inr (own_w hw 67 rfl)) (ty := .byte) (by decide)
                have F_195 : Fld Z h_193 b_193 "java/lang/String" "value" "[B" .null := D_193 (Or.inr (own_w hw 69 rfl)) (ty := (.array .byte)) (by decide)
                refine own_via st_193 ?_
                show own_Go p e below _ (T_193.setTop (mkF m 356 #[.val (.long q1), .second, .val (.long q2), .second, .val (.long q3), .second, .val (.int p4), .val (.int c0), .val (.int c1), .val (.int d0), .val (.int d1), .val (.int d2), .val (.int d3), .val (.int d4), .val (.int d5), .val (.int (p4 &&& (3 : Int32))), .val (.ref b_40), .val (.int zp), .val (.int (Int32.ofNat x)), .val (.ref b_75), .val (.ref b_78), .val (.ref b_83), .unset, .unset] [(.ref b_193)]))
                refine own_dup X_193 hx (hb hby at_356) (q := 357) rfl rfl ?_
                refine own_aload X_193 hx (hb hby at_357) (q := 359) rfl rfl rfl ?_
                have K_196 : Keep h_49 T_105.heap [] := Keep.trans (ws := []) K_103 K_105q (allS (Or.inr (Nat.le_trans K_86.1 (Nat.le_of_eq g_83.symm))) all0)
                have K_197 : Keep h_49 h_193 [] := K_196.ext E_193
                have V_198 : Arv Z h_193 b_40 k_40 .char (Int32.ofNat (own_t c0 c1 d0 d1 d2 d3 d4 d5).length) ((own_t c0 c1 d0 d1 d2 d3 d4 d5).map Value.int) (.int (0 : Int32)) := by rw [htl]; exact (V_50.keep K_197 nin0)
                have K_199 : Keep h0 T_105.heap [] := Keep.trans (ws := []) K_104 K_105q (allS (Or.inr (Nat.le_trans K_93.1 (Nat.le_of_eq g_83.symm))) all0)
                have K_200 : Keep h0 h_193 [] := K_199.ext E_193
                obtain ⟨_, _, ⟨T_201, L_201, k_201, n_201⟩, -, X_201, ⟨Lc_201, hQ_201, l_201, y_201, z_201⟩, st_201⟩ := X_193.specialBack hx (y := (⟨"java/lang/String", "<init>", "([C)V"⟩ : MethodName)) rfl hown (mvT hZ (own_w hw 25 rfl)) (mvT hZ (own_w hw 26 rfl)) (mvT hZ (own_w hw 27 rfl)) (by decide) (backOf (W := 1) (rmstrC l Z a0 hw [] b_193 b_40 k_40 (own_t c0 c1 d0 d1 d2 d3 d4 d5) cz h_193 n0 (Nat.le_trans Z0 K_200.1) (O0.keep K_200 all0) Sad Shi Slo Scs hcs A_193 F_195 F_194 (Nat.le_trans Z0 (Nat.le_trans K_199.1 (Nat.le_of_eq g_193.symm))) V_198 (by rw [htl]; decide) hp (by rw [htl]; decide)) hZ (own_w hw 27 rfl) (own_w hw 24 rfl) (by decide) (by decide)) (g := (mkF m 359 #[.val (.long q1), .second, .val (.long q2), .second, .val (.long q3), .second, .val (.int p4), .val (.int c0), .val (.int c1), .val (.int d0), .val (.int d1), .val (.int d2), .val (.int d3), .val (.int d4), .val (.int d5), .val (.int (p4 &&& (3 : Int32))), .val (.ref b_40), .val (.int zp), .val (.int (Int32.ofNat x)), .val (.ref b_75), .val (.ref b_78), .val (.ref b_83), .unset, .unset] [(.ref b_40), (.ref b_193), (.ref b_193)])) rfl (by rw [hml]; rfl) (Steps.refl _) (a := b_193) (argsL := [(.ref b_40)]) (rest := [(.ref b_193)]) (lenOf pd_33 rfl) rfl (by show 2 * 0 + _ ≤ _; exact Nat.le_of_eq rfl) (hb hby at_359) (fun _ _ => ⟨rfl, e_193, (by decide : 5 + 2 ≤ _), (by decide : 410 + 309 ≤ _)⟩)
                dsimp only [Pt.U, Pt.locs, Pt.cells, Pt.slots] at X_201 l_201 y_201 z_201 st_201 hQ_201
                subst l_201 y_201 z_201
                obtain ⟨rfl, Nq_201, K_201q, q_201_0⟩ := hQ_201
                have N_201 := Fr.app N_105 Nq_201
                refine own_via (fun _ k => st_201.trans k) ?_
                show own_Go p e below _ (T_201.setTop (mkF m 362 #[.val (.long q1), .second, .val (.long q2), .second, .val (.long q3), .second, .val (.int p4), .val (.int c0), .val (.int c1), .val (.int d0), .val (.int d1), .val (.int d2), .val (.int d3), .val (.int d4), .val (.int d5), .val (.int (p4 &&& (3 : Int32))), .val (.ref b_40), .val (.int zp), .val (.int (Int32.ofNat x)), .val (.ref b_75), .val (.ref b_78), .val (.ref b_83), .unset, .unset] [(.ref b_193)]))
                refine own_via (fun _ => XS.astore X_201.here hx rfl (hb hby at_362) rfl rfl (l' := #[.val (.long q1), .second, .val (.long q2), .second, .val (.long q3), .second, .val (.int p4), .val (.int c0), .val (.int c1), .val (.int d0), .val (.int d1), .val (.int d2), .val (.int d3), .val (.int d4), .val (.int d5), .val (.int (p4 &&& (3 : Int32))), .val (.ref b_40), .val (.int zp), .val (.int (Int32.ofNat x)), .val (.ref b_75), .val (.ref b_78), .val (.ref b_83), .val (.ref b_193), .unset]) rfl) ?_
                show own_Go p e below _ (T_201.setTop (mkF m 364 #[.val (.long q1), .second, .val (.long q2), .second, .val (.long q3), .second, .val (.int p4), .val (.int c0), .val (.int c1), .val (.int d0), .val (.int d1), .val (.int d2), .val (.int d3), .val (.int d4), .val (.int d5), .val (.int (p4 &&& (3 : Int32))), .val (.ref b_40), .val (.int zp), .val (.int (Int32.ofNat x)), .val (.ref b_75), .val (.ref b_78), .val (.ref b_83), .val (.ref b_193), .unset] []))
                obtain ⟨T_202, h_202, X_202, e_202, E_202, A_202, D_202, -, st_202⟩ := newO X_201 hx hZ hown (own_w hw 22 rfl) (own_w hw 23 rfl) (own_w hw 24 rfl) rfl (g := (mkF m 364 #[.val (.long q1), .second, .val (.long q2), .second, .val (.long q3), .second, .val (.int p4), .val (.int c0), .val (.int c1), .val (.int d0), .val (.int d1), .val (.int d2), .val (.int d3), .val (.int d4), .val (.int d5), .val (.int (p4 &&& (3 : Int32))), .val (.ref b_40), .val (.int zp), .val (.int (Int32.ofNat x)), .val (.ref b_75), .val (.ref b_78), .val (.ref b_83), .val (.ref b_193), .unset] [])) rfl (hb hby at_364) (by decide) (by decide)
                obtain ⟨b_202, g_202⟩ : ∃ z, z = T_201.heap.size := ⟨_, rfl⟩
                rw [← g_202] at A_202 D_202 st_202
                have F_203 : Fld Z h_202 b_202 "java/lang/String" "coder" "B" (.int (0 : Int32)) := D_202 (Or.inr (own_w hw 67 rfl)) (ty := .byte) (by decide)
                have F_204 : Fld Z h_202 b_202 "java/lang/String" "value" "[B" .null := D_202 (Or.inr (own_w hw 69 rfl)) (ty := (.array .byte)) (by decide)
                refine own_via st_202 ?_
                show own_Go p e below _ (T_202.setTop (mkF m 367 #[.val (.long q1), .second, .val (.long q2), .second, .val (.long q3), .second, .val (.int p4), .val (.int c0), .val (.int c1), .val (.int d0), .val (.int d1), .val (.int d2), .val (.int d3), .val (.int d4), .val (.int d5), .val (.int (p4 &&& (3 : Int32))), .val (.ref b_40), .val (.int zp), .val (.int (Int32.ofNat x)), .val (.ref b_75), .val (.ref b_78), .val (.ref b_83), .val (.ref b_193), .unset] [(.ref b_202)]))
                refine own_dup X_202 hx (hb hby at_367) (q := 368) rfl rfl ?_
                refine own_aload X_202 hx (hb hby at_368) (q := 370) rfl rfl rfl ?_
                have K_206 : Keep h_49 T_201.heap [] := Keep.trans (ws := []) K_197 K_201q (allS (Or.inr (Nat.le_trans K_196.1 (Nat.le_of_eq g_193.symm))) all0)
                have K_207 : Keep h_49 h_202 [] := K_206.ext E_202
                have V_205 : Arv Z h_202 b_40 k_40 .char (Int32.ofNat (own_t c0 c1 d0 d1 d2 d3 d4 d5).length) ((own_t c0 c1 d0 d1 d2 d3 d4 d5).map Value.int) (.int (0 : Int32)) := by rw [htl]; exact (V_50.keep K_207 nin0)
                have K_208 : Keep h0 T_201.heap [] := Keep.trans (ws := []) K_200 K_201q (allS (Or.inr (Nat.le_trans K_199.1 (Nat.le_of_eq g_193.symm))) all0)
                have K_209 : Keep h0 h_202 [] := K_208.ext E_202
                obtain ⟨_, _, ⟨T_210, L_210, k_210, n_210⟩, -, X_210, ⟨Lc_210, hQ_210, l_210, y_210, z_210⟩, st_210⟩ := X_202.specialBack hx (y := (⟨"java/lang/String", "<init>", "([C)V"⟩ : MethodName)) rfl hown (mvT hZ (own_w hw 25 rfl)) (mvT hZ (own_w hw 26 rfl)) (mvT hZ (own_w hw 27 rfl)) (by decide) (backOf (W := 1) (rmstrC l Z a0 hw [] b_202 b_40 k_40 (own_t c0 c1 d0 d1 d2 d3 d4 d5) cz h_202 n0 (Nat.le_trans Z0 K_209.1) (O0.keep K_209 all0) Sad Shi Slo Scs hcs A_202 F_204 F_203 (Nat.le_trans Z0 (Nat.le_trans K_208.1 (Nat.le_of_eq g_202.symm))) V_205 (by omega) hp (by omega)) hZ (own_w hw 27 rfl) (own_w hw 24 rfl) (by decide) (by decide)) (g := (mkF m 370 #[.val (.long q1), .second, .val (.long q2), .second, .val (.long q3), .second, .val (.int p4), .val (.int c0), .val (.int c1), .val (.int d0), .val (.int d1), .val (.int d2), .val (.int d3), .val (.int d4), .val (.int d5), .val (.int (p4 &&& (3 : Int32))), .val (.ref b_40), .val (.int zp), .val (.int (Int32.ofNat x)), .val (.ref b_75), .val (.ref b_78), .val (.ref b_83), .val (.ref b_193), .unset] [(.ref b_40), (.ref b_202), (.ref b_202)])) rfl (by rw [hml]; rfl) (Steps.refl _) (a := b_202) (argsL := [(.ref b_40)]) (rest := [(.ref b_202)]) (lenOf pd_33 rfl) rfl (by show 2 * 0 + _ ≤ _; exact Nat.le_of_eq rfl) (hb hby at_370) (fun _ _ => ⟨rfl, e_202, (by decide : 8 + 2 ≤ _), (by decide : 723 + 309 ≤ _)⟩)
                dsimp only [Pt.U, Pt.locs, Pt.cells, Pt.slots] at X_210 l_210 y_210 z_210 st_210 hQ_210
                subst l_210 y_210 z_210
                obtain ⟨rfl, Nq_210, K_210q, q_210_0⟩ := hQ_210
                have N_210 := Fr.app N_201 Nq_210
                refine own_via (fun _ k => st_210.trans k) ?_
                show own_Go p e below _ (T_210.setTop (mkF m 373 #[.val (.long q1), .second, .val (.long q2), .second, .val (.long q3), .second, .val (.int p4), .val (.int c0), .val (.int c1), .val (.int d0), .val (.int d1), .val (.int d2), .val (.int d3), .val (.int d4), .val (.int d5), .val (.int (p4 &&& (3 : Int32))), .val (.ref b_40), .val (.int zp), .val (.int (Int32.ofNat x)), .val (.ref b_75), .val (.ref b_78), .val (.ref b_83), .val (.ref b_193), .unset] [(.ref b_202)]))
                refine own_via (fun _ => XS.astore X_210.here hx rfl (hb hby at_373) rfl rfl (l' := #[.val (.long q1), .second, .val (.long q2), .second, .val (.long q3), .second, .val (.int p4), .val (.int c0), .val (.int c1), .val (.int d0), .val (.int d1), .val (.int d2), .val (.int d3), .val (.int d4), .val (.int d5), .val (.int (p4 &&& (3 : Int32))), .val (.ref b_40), .val (.int zp), .val (.int (Int32.ofNat x)), .val (.ref b_75), .val (.ref b_78), .val (.ref b_83), .val (.ref b_193), .val (.ref b_202)]) rfl) ?_
                show own_Go p e below _ (T_210.setTop (mkF m 375 #[.val (.long q1), .second, .val (.long q2), .second, .val (.long q3), .second, .val (.int p4), .val (.int c0), .val (.int c1), .val (.int d0), .val (.int d1), .val (.int d2), .val (.int d3), .val (.int d4), .val (.int d5), .val (.int (p4 &&& (3 : Int32))), .val (.ref b_40), .val (.int zp), .val (.int (Int32.ofNat x)), .val (.ref b_75), .val (.ref b_78), .val (.ref b_83), .val (.ref b_193), .val (.ref b_202)] []))
                refine own_aload X_210 hx (hb hby at_375) (q := 377) rfl rfl rfl ?_
                have K_211 : Keep h0 T_210.heap [] := Keep.trans (ws := []) K_209 K_210q (allS (Or.inr (Nat.le_trans K_208.1 (Nat.le_of_eq g_202.symm))) all0)
                obtain ⟨_, _, ⟨T_212, L_212, k_212, n_212⟩, -, X_212, ⟨Lc_212, hQ_212, l_212, y_212, z_212⟩, st_212⟩ := Jvm.LawKit.callS X_210 hx (y := (⟨"com/example/tender/tender/mailbox/MailAbstract", "of", "(Ljava/lang/String;)Ljava/lang/String;"⟩ : MethodName)) hown (mvT hZ (own_w hw 70 rfl)) (mvT hZ (own_w hw 71 rfl)) (mvT hZ (own_w hw 72 rfl)) (mvT hZ (own_w hw 73 rfl)) (by decide) (backOf (W := 0) (rmof l Z a0 hw [] b_202 (own_t c0 c1 d0 d1 d2 d3 d4 d5) cz sf T_210.heap n0 (Nat.le_trans Z0 K_211.1) (O0.keep K_211 all0) Sad Shi Slo Scs hcs Ssf hsf q_210_0) hZ (own_w hw 73 rfl) (own_w hw 72 rfl) (by decide) (by decide)) (g := (mkF m 377 #[.val (.long q1), .second, .val (.long q2), .second, .val (.long q3), .second, .val (.int p4), .val (.int c0), .val (.int c1), .val (.int d0), .val (.int d1), .val (.int d2), .val (.int d3), .val (.int d4), .val (.int d5), .val (.int (p4 &&& (3 : Int32))), .val (.ref b_40), .val (.int zp), .val (.int (Int32.ofNat x)), .val (.ref b_75), .val (.ref b_78), .val (.ref b_83), .val (.ref b_193), .val (.ref b_202)] [(.ref b_202)])) rfl (by rw [hml]; rfl) (argsL := [(.ref b_202)]) (rest := []) (lenOf pd_31 rfl) rfl (by show 2 * 0 + _ ≤ _; exact Nat.le_of_eq rfl) (hb hby at_377) (fun _ _ => ⟨rfl, rfl, (by decide : 10 + 3 ≤ _), (by decide : 1032 + 313 ≤ _)⟩)
                dsimp only [Pt.U, Pt.locs, Pt.cells, Pt.slots] at X_212 l_212 y_212 z_212 st_212 hQ_212
                subst l_212 y_212 z_212
                obtain ⟨r_213, rfl, Nq_212, K_212q, q_212_0⟩ := hQ_212
                have N_212 := Fr.app N_210 Nq_212
                refine own_via st_212 ?_
                show own_Go p e below _ (T_212.setTop (mkF m 380 #[.val (.long q1), .second, .val (.long q2), .second, .val (.long q3), .second, .val (.int p4), .val (.int c0), .val (.int c1), .val (.int d0), .val (.int d1), .val (.int d2), .val (.int d3), .val (.int d4), .val (.int d5), .val (.int (p4 &&& (3 : Int32))), .val (.ref b_40), .val (.int zp), .val (.int (Int32.ofNat x)), .val (.ref b_75), .val (.ref b_78), .val (.ref b_83), .val (.ref b_193), .val (.ref b_202)] [(.ref r_213)]))
                refine own_aload X_212 hx (hb hby at_380) (q := 382) rfl rfl rfl ?_
                have K_215 : Keep h0 T_212.heap [] := Keep.trans (ws := []) K_211 K_212q all0
                have K_216 : Keep T_201.heap h_202 [] := (Keep.refl T_201.heap []).ext E_202
                have K_217 : Keep T_201.heap T_210.heap [] := Keep.trans (ws := []) K_216 K_210q (allS (Or.inr (Nat.le_of_eq g_202.symm)) all0)
                have K_218 : Keep T_201.heap T_212.heap [] := Keep.trans (ws := []) K_217 K_212q all0
                obtain ⟨E_214a, ⟨t_214a, k_214a, cd_214a, N_214a, vs_214a, C_214a, V_214a, K_214a, hC_214a⟩, p_214a, l_214a⟩ := q_212_0
                obtain ⟨E_214b, ⟨t_214b, k_214b, cd_214b, N_214b, vs_214b, C_214b, V_214b, K_214b, hC_214b⟩, p_214b, l_214b⟩ := (q_201_0.keep0 K_218)
                obtain ⟨cq_219, kq_219, q_219a, q_219b, q_219c⟩ := isOf hZ rfl E_214a
                obtain ⟨_, _, ⟨T_219, L_219, k_219, n_219⟩, -, X_219, ⟨Lc_219, hQ_219, l_219, y_219, z_219⟩, st_219⟩ := X_212.virtualBack hx (y := (⟨"java/lang/String", "equals", "(Ljava/lang/Object;)Z"⟩ : MethodName)) (z := (⟨"java/lang/String", "equals", "(Ljava/lang/Object;)Z"⟩ : MethodName)) hown (mvT hZ (own_w hw 192 rfl)) (mvT hZ (own_w hw 193 rfl)) (notFace_of_selects (args := #[]) (mvT hZ (own_w hw 195 rfl))) (mvT hZ (own_w hw 195 rfl)) (mvT hZ (own_w hw 194 rfl)) (by decide) (StrChars.Road.eqW (W := 0) hZ (own_hwordsEq hw) (kI := 4) (own_w hw 23 rfl) E_214a V_214a C_214a K_214a hC_214a p_214a (by omega) E_214b V_214b C_214b K_214b hC_214b p_214b (by omega) (Scs.ext (O0.keep K_215 all0).2) hcs (by decide) (by decide)) q_219a q_219c (g := (mkF m 382 #[.val (.long q1), .second, .val (.long q2), .second, .val (.long q3), .second, .val (.int p4), .val (.int c0), .val (.int c1), .val (.int d0), .val (.int d1), .val (.int d2), .val (.int d3), .val (.int d4), .val (.int d5), .val (.int (p4 &&& (3 : Int32))), .val (.ref b_40), .val (.int zp), .val (.int (Int32.ofNat x)), .val (.ref b_75), .val (.ref b_78), .val (.ref b_83), .val (.ref b_193), .val (.ref b_202)] [(.ref b_193), (.ref r_213)])) rfl (by rw [hml]; rfl) (Steps.refl _) (argsL := [(.ref b_193)]) (rest := []) (lenOf pd_32 rfl) rfl (by show 2 * 0 + _ ≤ _; exact Nat.le_of_eq rfl) (hb hby at_382) (fun _ _ => ⟨rfl, rfl, (by decide : 13 + 0 ≤ _), (by decide : 1345 + 0 ≤ _)⟩)
                dsimp only [Pt.U, Pt.locs, Pt.cells, Pt.slots] at X_219 l_219 y_219 z_219 st_219 hQ_219
                subst l_219 y_219 z_219
                obtain ⟨hv_219, rfl, e_219⟩ := hQ_219
                have N_219 := Fr.app N_212 (Fr.nil n0)
                rcases hv_219 with ⟨rfl, hq_219⟩ | ⟨rfl, hq_219⟩
                · refine own_via (fun _ k => st_219.trans k) ?_
                  show own_Go p e below _ (T_219.setTop (mkF m 385 #[.val (.long q1), .second, .val (.long q2), .second, .val (.long q3), .second, .val (.int p4), .val (.int c0), .val (.int c1), .val (.int d0), .val (.int d1), .val (.int d2), .val (.int d3), .val (.int d4), .val (.int d5), .val (.int (p4 &&& (3 : Int32))), .val (.ref b_40), .val (.int zp), .val (.int (Int32.ofNat x)), .val (.ref b_75), .val (.ref b_78), .val (.ref b_83), .val (.ref b_193), .val (.ref b_202)] [(.int (1 : Int32))]))
                  exact own_retvW X_219 hS0 (by rw [e_219]; exact (Nat.le_trans (Nat.zero_le _) K_215.1)) Bd.notSynchronized hx Bd.returns rfl (Or.inl ⟨rfl, (by simp), _, rfl⟩) (hb hby at_385) (by decide) (by decide) (by rw [e_219]; exact ⟨rfl, N_219, K_215⟩)
                · exact absurd (by rw [← hx1]; exact List.take_of_length_le (by omega)) hq_219
        by_cases hpr : own_hi c0 ∧ own_lo c1
        · refine own_via (fun _ => XS.ifNo X_69.here hx rfl (hb hby at_239) rfl ((if0 _ _).trans (feq (fun q => absurd (q.symm.trans (hzp.trans (if_pos hpr))) (by decide) : ¬ (zp = (0 : Int32)))).1)) ?_
          show own_Go p e below _ (T_69.setTop (mkF m 242 #[.val (.long q1), .second, .val (.long q2), .second, .val (.long q3), .second, .val (.int p4), .val (.int c0), .val (.int c1), .val (.int d0), .val (.int d1), .val (.int d2), .val (.int d3), .val (.int d4), .val (.int d5), .val (.int (p4 &&& (3 : Int32))), .val (.ref b_40), .val (.int zp), .val (.int (Int32.ofNat (own_nx (own_t c0 c1 d0 d1 d2 d3 d4 d5) (own_nx (own_t c0 c1 d0 d1 d2 d3 d4 d5) (own_nx (own_t c0 c1 d0 d1 d2 d3 d4 d5) 97))))), .unset, .unset, .unset, .unset, .unset] []))
          refine own_aload X_69 hx (hb hby at_242) (q := 244) rfl rfl rfl ?_
          refine own_iload X_69 hx (hb hby at_244) (q := 246) rfl rfl ?_
          obtain ⟨_, _, ⟨T_220, L_220, k_220, n_220⟩, -, X_220, ⟨Lc_220, hQ_220, l_220, y_220, z_220⟩, st_220⟩ := Jvm.LawKit.callS X_69 hx (y := (⟨"com/example/tender/tender/mailbox/MailAbstractOfPinLaw", "step", "([CI)I"⟩ : MethodName)) hown (mvT hZ (own_w hw 12 rfl)) (mvT hZ (own_w hw 13 rfl)) (mvT hZ (own_w hw 2 rfl)) (mvT hZ (own_w hw 14 rfl)) (by decide) (backOf (W := 0) (rmstep l Z a0 hw [] b_40 k_40 (own_t c0 c1 d0 d1 d2 d3 d4 d5) (own_nx (own_t c0 c1 d0 d1 d2 d3 d4 d5) (own_nx (own_t c0 c1 d0 d1 d2 d3 d4 d5) (own_nx (own_t c0 c1 d0 d1 d2 d3 d4 d5) 97))) h_49 n0 (Nat.le_trans Z0 K_59.1) (by rw [htl]; exact V_50) (by omega) (Nat.le_trans (own_nx103 (own_nx103 (own_nx103 (by omega : 97 ≤ 103)))) (by omega))) hZ (own_w hw 14 rfl) (own_w hw 2 rfl) (by decide) (by decide)) (g := (mkF m 246 #[.val (.long q1), .second, .val (.long q2), .second, .val (.long q3), .second, .val (.int p4), .val (.int c0), .val (.int c1), .val (.int d0), .val (.int d1), .val (.int d2), .val (.int d3), .val (.int d4), .val (.int d5), .val (.int (p4 &&& (3 : Int32))), .val (.ref b_40), .val (.int zp), .val (.int (Int32.ofNat (own_nx (own_t c0 c1 d0 d1 d2 d3 d4 d5) (own_nx (own_t c0 c1 d0 d1 d2 d3 d4 d5) (own_nx (own_t c0 c1 d0 d1 d2 d3 d4 d5) 97))))), .unset, .unset, .unset, .unset, .unset] [(.int (Int32.ofNat (own_nx (own_t c0 c1 d0 d1 d2 d3 d4 d5) (own_nx (own_t c0 c1 d0 d1 d2 d3 d4 d5) (own_nx (own_t c0 c1 d0 d1 d2 d3 d4 d5) 97))))), (.ref b_40)])) rfl (by rw [hml]; rfl) (argsL := [(.ref b_40), (.int (Int32.ofNat (own_nx (own_t c0 c1 d0 d1 d2 d3 d4 d5) (own_nx (own_t c0 c1 d0 d1 d2 d3 d4 d5) (own_nx (own_t c0 c1 d0 d1 d2 d3 d4 d5) 97)))))]) (rest := []) (lenOf pd_34 rfl) rfl (by show 2 * 0 + _ ≤ _; exact Nat.le_of_eq rfl) (hb hby at_246) (fun _ _ => ⟨rfl, e_69, (by decide : 1 + 0 ≤ _), (by decide : 103 + 0 ≤ _)⟩)
          dsimp only [Pt.U, Pt.locs, Pt.cells, Pt.slots] at X_220 l_220 y_220 z_220 st_220 hQ_220
          subst l_220 y_220 z_220
          obtain ⟨rfl, Nq_220, e_220⟩ := hQ_220
          have N_220 := Fr.app N_69 Nq_220
          refine own_via st_220 ?_
          show own_Go p e below _ (T_220.setTop (mkF m 249 #[.val (.long q1), .second, .val (.long q2), .second, .val (.long q3), .second, .val (.int p4), .val (.int c0), .val (.int c1), .val (.int d0), .val (.int d1), .val (.int d2), .val (.int d3), .val (.int d4), .val (.int d5), .val (.int (p4 &&& (3 : Int32))), .val (.ref b_40), .val (.int zp), .val (.int (Int32.ofNat (own_nx (own_t c0 c1 d0 d1 d2 d3 d4 d5) (own_nx (own_t c0 c1 d0 d1 d2 d3 d4 d5) (own_nx (own_t c0 c1 d0 d1 d2 d3 d4 d5) 97))))), .unset, .unset, .unset, .unset, .unset] [(.int (Int32.ofNat (own_nx (own_t c0 c1 d0 d1 d2 d3 d4 d5) (own_nx (own_t c0 c1 d0 d1 d2 d3 d4 d5) (own_nx (own_t c0 c1 d0 d1 d2 d3 d4 d5) (own_nx (own_t c0 c1 d0 d1 d2 d3 d4 d5) 97))))))]))
          refine own_via (fun _ => XS.istore X_220.here hx rfl (hb hby at_249) rfl (l' := #[.val (.long q1), .second, .val (.long q2), .second, .val (.long q3), .second, .val (.int p4), .val (.int c0), .val (.int c1), .val (.int d0), .val (.int d1), .val (.int d2), .val (.int d3), .val (.int d4), .val (.int d5), .val (.int (p4 &&& (3 : Int32))), .val (.ref b_40), .val (.int zp), .val (.int (Int32.ofNat (own_nx (own_t c0 c1 d0 d1 d2 d3 d4 d5) (own_nx (own_t c0 c1 d0 d1 d2 d3 d4 d5) (own_nx (own_t c0 c1 d0 d1 d2 d3 d4 d5) (own_nx (own_t c0 c1 d0 d1 d2 d3 d4 d5) 97)))))), .unset, .unset, .unset, .unset, .unset]) rfl) ?_
          show own_Go p e below _ (T_220.setTop (mkF m 251 #[.val (.long q1), .second, .val (.long q2), .second, .val (.long q3), .second, .val (.int p4), .val (.int c0), .val (.int c1), .val (.int d0), .val (.int d1), .val (.int d2), .val (.int d3), .val (.int d4), .val (.int d5), .val (.int (p4 &&& (3 : Int32))), .val (.ref b_40), .val (.int zp), .val (.int (Int32.ofNat (own_nx (own_t c0 c1 d0 d1 d2 d3 d4 d5) (own_nx (own_t c0 c1 d0 d1 d2 d3 d4 d5) (own_nx (own_t c0 c1 d0 d1 d2 d3 d4 d5) (own_nx (own_t c0 c1 d0 d1 d2 d3 d4 d5) 97)))))), .unset, .unset, .unset, .unset, .unset] []))
          exact kj_70 _ _ (own_nx (own_t c0 c1 d0 d1 d2 d3 d4 d5) (own_nx (own_t c0 c1 d0 d1 d2 d3 d4 d5) (own_nx (own_t c0 c1 d0 d1 d2 d3 d4 d5) (own_nx (own_t c0 c1 d0 d1 d2 d3 d4 d5) 97)))) (own_tY hpr) X_220 e_220 N_220
        · refine own_via (fun _ => XS.ifYes X_69.here hx rfl (pc0 := 239) (pc' := 251) rfl (hb hby at_239) rfl ((if0 _ _).trans (teq (hzp.trans (if_neg hpr) : zp = (0 : Int32))).1) (by decide) (by decide)) ?_
          show own_Go p e below _ (T_69.setTop (mkF m 251 #[.val (.long q1), .second, .val (.long q2), .second, .val (.long q3), .second, .val (.int p4), .val (.int c0), .val (.int c1), .val (.int d0), .val (.int d1), .val (.int d2), .val (.int d3), .val (.int d4), .val (.int d5), .val (.int (p4 &&& (3 : Int32))), .val (.ref b_40), .val (.int zp), .val (.int (Int32.ofNat (own_nx (own_t c0 c1 d0 d1 d2 d3 d4 d5) (own_nx (own_t c0 c1 d0 d1 d2 d3 d4 d5) (own_nx (own_t c0 c1 d0 d1 d2 d3 d4 d5) 97))))), .unset, .unset, .unset, .unset, .unset] []))
          exact kj_70 _ _ (own_nx (own_t c0 c1 d0 d1 d2 d3 d4 d5) (own_nx (own_t c0 c1 d0 d1 d2 d3 d4 d5) (own_nx (own_t c0 c1 d0 d1 d2 d3 d4 d5) 97))) (own_tN hpr) X_69 e_69 N_69
      by_cases hhi : own_hi c0
      · refine own_via (fun _ => XS.ifNo X_60.here hx rfl (hb hby at_200) rfl ((if0 _ _).trans (feq (fun q => absurd (q.symm.trans (q_60_0.trans (if_pos hhi))) (by decide) : ¬ (i_61 = (0 : Int32)))).1)) ?_
        show own_Go p e below _ (T_60.setTop (mkF m 203 #[.val (.long q1), .second, .val (.long q2), .second, .val (.long q3), .second, .val (.int p4), .val (.int c0), .val (.int c1), .val (.int d0), .val (.int d1), .val (.int d2), .val (.int d3), .val (.int d4), .val (.int d5), .val (.int (p4 &&& (3 : Int32))), .val (.ref b_40), .unset, .unset, .unset, .unset, .unset, .unset, .unset] []))
        refine own_iload X_60 hx (hb hby at_203) (q := 205) rfl rfl ?_
        obtain ⟨_, _, ⟨T_221, L_221, k_221, n_221⟩, -, X_221, ⟨Lc_221, hQ_221, l_221, y_221, z_221⟩, st_221⟩ := Jvm.LawKit.callS X_60 hx (y := (⟨"com/example/tender/tender/mailbox/MailAbstractOfPinLaw", "low", "(C)Z"⟩ : MethodName)) hown (mvT hZ (own_w hw 16 rfl)) (mvT hZ (own_w hw 17 rfl)) (mvT hZ (own_w hw 2 rfl)) (mvT hZ (own_w hw 18 rfl)) (by decide) (backOf (W := 0) (rmlow l Z a0 hw [] c1 h_49 n0 (Nat.le_trans Z0 K_59.1) ) hZ (own_w hw 18 rfl) (own_w hw 2 rfl) (by decide) (by decide)) (g := (mkF m 205 #[.val (.long q1), .second, .val (.long q2), .second, .val (.long q3), .second, .val (.int p4), .val (.int c0), .val (.int c1), .val (.int d0), .val (.int d1), .val (.int d2), .val (.int d3), .val (.int d4), .val (.int d5), .val (.int (p4 &&& (3 : Int32))), .val (.ref b_40), .unset, .unset, .unset, .unset, .unset, .unset, .unset] [(.int c1)])) rfl (by rw [hml]; rfl) (argsL := [(.int c1)]) (rest := []) (lenOf pd_0 rfl) rfl (by show 2 * 0 + _ ≤ _; exact Nat.le_of_eq rfl) (hb hby at_205) (fun _ _ => ⟨rfl, e_60, (by decide : 1 + 0 ≤ _), (by decide : 103 + 0 ≤ _)⟩)
        dsimp only [Pt.U, Pt.locs, Pt.cells, Pt.slots] at X_221 l_221 y_221 z_221 st_221 hQ_221
        subst l_221 y_221 z_221
        obtain ⟨i_222, rfl, Nq_221, e_221, q_221_0⟩ := hQ_221
        have N_221 := Fr.app N_60 Nq_221
        refine own_via st_221 ?_
        show own_Go p e below _ (T_221.setTop (mkF m 208 #[.val (.long q1), .second, .val (.long q2), .second, .val (.long q3), .second, .val (.int p4), .val (.int c0), .val (.int c1), .val (.int d0), .val (.int d1), .val (.int d2), .val (.int d3), .val (.int d4), .val (.int d5), .val (.int (p4 &&& (3 : Int32))), .val (.ref b_40), .unset, .unset, .unset, .unset, .unset, .unset, .unset] [(.int i_222)]))
        by_cases hlo : own_lo c1
        · refine own_via (fun _ => XS.ifNo X_221.here hx rfl (hb hby at_208) rfl ((if0 _ _).trans (feq (fun q => absurd (q.symm.trans (q_221_0.trans (if_pos hlo))) (by decide) : ¬ (i_222 = (0 : Int32)))).1)) ?_
          show own_Go p e below _ (T_221.setTop (mkF m 211 #[.val (.long q1), .second, .val (.long q2), .second, .val (.long q3), .second, .val (.int p4), .val (.int c0), .val (.int c1), .val (.int d0), .val (.int d1), .val (.int d2), .val (.int d3), .val (.int d4), .val (.int d5), .val (.int (p4 &&& (3 : Int32))), .val (.ref b_40), .unset, .unset, .unset, .unset, .unset, .unset, .unset] []))
          refine own_iconst X_221 hx (hb hby at_211) (q := 212) (z := (1 : Int32)) rfl rfl ?_
          refine own_via (fun _ => XS.goto X_221.here hx rfl (pc0 := 212) (pc' := 216) rfl (hb hby at_212) (by decide) (by decide)) ?_
          show own_Go p e below _ (T_221.setTop (mkF m 216 #[.val (.long q1), .second, .val (.long q2), .second, .val (.long q3), .second, .val (.int p4), .val (.int c0), .val (.int c1), .val (.int d0), .val (.int d1), .val (.int d2), .val (.int d3), .val (.int d4), .val (.int d5), .val (.int (p4 &&& (3 : Int32))), .val (.ref b_40), .unset, .unset, .unset, .unset, .unset, .unset, .unset] [(.int (1 : Int32))]))
          exact kj_62 _ _ (1 : Int32) ((if_pos (show own_hi c0 ∧ own_lo c1 from ⟨hhi, hlo⟩)).symm) X_221 e_221 N_221
        · refine own_via (fun _ => XS.ifYes X_221.here hx rfl (pc0 := 208) (pc' := 215) rfl (hb hby at_208) rfl ((if0 _ _).trans (teq (q_221_0.trans (if_neg hlo) : i_222 = (0 : Int32))).1) (by decide) (by decide)) ?_
          show own_Go p e below _ (T_221.setTop (mkF m 215 #[.val (.long q1), .second, .val (.long q2), .second, .val (.long q3), .second, .val (.int p4), .val (.int c0), .val (.int c1), .val (.int d0), .val (.int d1), .val (.int d2), .val (.int d3), .val (.int d4), .val (.int d5), .val (.int (p4 &&& (3 : Int32))), .val (.ref b_40), .unset, .unset, .unset, .unset, .unset, .unset, .unset] []))
          refine own_iconst X_221 hx (hb hby at_215) (q := 216) (z := (0 : Int32)) rfl rfl ?_
          exact kj_62 _ _ (0 : Int32) ((if_neg (show ¬ (own_hi c0 ∧ own_lo c1) from fun q => hlo q.2)).symm) X_221 e_221 N_221
      · refine own_via (fun _ => XS.ifYes X_60.here hx rfl (pc0 := 200) (pc' := 215) rfl (hb hby at_200) rfl ((if0 _ _).trans (teq (q_60_0.trans (if_neg hhi) : i_61 = (0 : Int32))).1) (by decide) (by decide)) ?_
        show own_Go p e below _ (T_60.setTop (mkF m 215 #[.val (.long q1), .second, .val (.long q2), .second, .val (.long q3), .second, .val (.int p4), .val (.int c0), .val (.int c1), .val (.int d0), .val (.int d1), .val (.int d2), .val (.int d3), .val (.int d4), .val (.int d5), .val (.int (p4 &&& (3 : Int32))), .val (.ref b_40), .unset, .unset, .unset, .unset, .unset, .unset, .unset] []))
        refine own_iconst X_60 hx (hb hby at_215) (q := 216) (z := (0 : Int32)) rfl rfl ?_
        exact kj_62 _ _ (0 : Int32) ((if_neg (show ¬ (own_hi c0 ∧ own_lo c1) from fun q => hhi q.1)).symm) X_60 e_60 N_60
theorem comes_1 {Post : Tables → Env → Array Value → State → Outcome → State → Prop} (hpost : ∀ tb e args s v u, (limb_1_1.after args s (.returned v) u = true ∧ limb_1_2.after args s (.returned v) u = true ∧ True) → FramedW s (.returned v) u (Jvm.fieldLocs frame_1_writes args s ++ Jvm.arrayLocs frame_1_arrays args s ++ Jvm.staticLocs frame_1_statics s) 40 3776 → Post tb e args s (.returned v) u) :
    ArmFor flags0 classFile x code maxLocals ret World_1 tables_1 room_1 Calls_1 rest_1 Pre_1 Post := by
  intro l hfl _ _ p e ha hc hk s m args below hf hA hF happ hP
  obtain ⟨hcalls, hrest, hpre⟩ := hP
  obtain ⟨-, -, -, hnamed, -, -, -, hat⟩ := (Spec.applies_iff hf).mp happ
  obtain ⟨hg, hn⟩ := and_e (Cond.before_iff.mp (show (Jvm.Cond.and given_1 narrow_1).before args s = true from hpre))
  obtain ⟨ga0, gb0⟩ := and_e hg
  obtain ⟨ga1, gb1⟩ := and_e gb0
  obtain ⟨ga2, gb2⟩ := and_e gb1
  obtain ⟨ga3, gb3⟩ := and_e gb2
  obtain ⟨w0, w1, w2, w3, rfl⟩ : ∃ w0 w1 w2 w3 : Value, args = #[w0, w1, w2, w3] := by
    have hs : args.size = 4 := by simpa [Cond.value, given_1] using ga0
    obtain ⟨L⟩ := args
    match L, hs with
    | [w0, w1, w2, w3], _ => exact ⟨w0, w1, w2, w3, rfl⟩
  have hw := fun d (hd : d ∈ tables_1) => atoms_spec (ws := Jvm.Cond.code x code maxLocals ret :: tables_1) hat d (List.mem_cons_of_mem _ hd)
  have hfit : Fit s := fun {y c} hc i hi => by
    obtain ⟨ha, rfl⟩ := Array.getElem?_eq_some_iff.mp hc
    have q := List.all_eq_true.mp ((Array.all_eq_true_iff_forall_mem.mp hF) _ (Array.getElem_mem ha)) i (List.mem_range.mpr hi)
    simpa [Array.getElem?_eq_getElem hi] using q
  obtain ⟨i0, ei0⟩ := isL_v ga1
  obtain rfl : w0 = (.long i0) := Option.some.inj ei0
  obtain ⟨i1, ei1⟩ := isL_v ga2
  obtain rfl : w1 = (.long i1) := Option.some.inj ei1
  obtain ⟨i2, ei2⟩ := isL_v ga3
  obtain rfl : w2 = (.long i2) := Option.some.inj ei2
  obtain ⟨i3, ei3⟩ := is_v gb3
  obtain rfl : w3 = (.int i3) := Option.some.inj ei3
  obtain ⟨hsets, hown0⟩ := atoms_of _ (rest_1_c_eq ▸ (show rest_1_c.before _ s = true from hrest))
  obtain ⟨cs, tcs⟩ := is_v (Cond.before_iff.mp (hsets _ (List.mem_of_getElem? (i := 1) rfl)))
  have Scs := Sta.start tcs (Or.inl (hsets _ (List.mem_of_getElem? (i := 0) rfl)))
  have hcs : ¬ (cs = (0 : Int32)) := fun q => by
    subst q
    have h1 := not_v (Cond.before_iff.mp (hsets _ (List.mem_of_getElem? (i := 2) rfl)))
    rw [eq_i tcs (Term.int_eval (0)) rfl] at h1
    cases h1
  obtain ⟨sf, tsf, hsf⟩ := isR_v (Cond.before_iff.mp (hsets _ (List.mem_of_getElem? (i := 8) rfl)))
  have Ssf := Sta.start tsf (Or.inl (hsets _ (List.mem_of_getElem? (i := 7) rfl)))
  have Sad := Sta.start (eqv_i (Term.int_eval (1 : Int32)) (Cond.before_iff.mp (hsets _ (List.mem_of_getElem? (i := 12) rfl)))) (Or.inl (hsets _ (List.mem_of_getElem? (i := 11) rfl)))
  have Shi := Sta.start (eqv_i (Term.int_eval (0 : Int32)) (Cond.before_iff.mp (hsets _ (List.mem_of_getElem? (i := 15) rfl)))) (Or.inl (hsets _ (List.mem_of_getElem? (i := 14) rfl)))
  have Slo := Sta.start (eqv_i (Term.int_eval (8 : Int32)) (Cond.before_iff.mp (hsets _ (List.mem_of_getElem? (i := 18) rfl)))) (Or.inl (hsets _ (List.mem_of_getElem? (i := 17) rfl)))
  have hcw : Jvm.Lit.compactW.before _ s = true := hsets _ (List.mem_of_getElem? (i := 2) rfl)
  have hhc : ∀ p ∈ consts_1, Jvm.Lit.constHeld s p.1 p.2 := fun p hp => hcalls.1 p hp
  have J0 : CHv s consts_1 s.vm s.heap := CHv.start (own_EW hw) hhc hcw (own_w hw 40 rfl) (own_w hw 23 rfl)
  obtain ⟨n, o, h1, h2, h3, _, L, rfl, ⟨rfl, N, -⟩, hq⟩ := rm0 l s _ hw tables_1 i0 i1 i2 i3 cs sf s.heap s.heap.size (Nat.le_refl _) (Old.start s) Sad Shi Slo Scs hcs Ssf hsf p e ha hc hk s m _ below hf ((Spec.applies_iff_loose hf).mp happ).1 ⟨rfl, State.Warmed39.refl s, rfl, J0⟩ trivial
  refine ⟨n, _, h1, h2, h3, hpost _ _ _ _ _ _ ⟨Cond.after_iff.mpr rfl, Cond.after_iff.mpr (eq_i res_at (Term.int_eval (1)) rfl), trivial⟩ ⟨hq.1, hq.2.1, hq.2.2.1, (hq.2.2.2.sift fun y hy => Or.inr (N y hy)).mono (by decide) (by decide)⟩⟩
theorem main_1_1 : Claimed_1_1 := comes_1 fun _ _ _ _ _ _ h hF => ⟨h.1, hF⟩
theorem main_1_2 : Claimed_1_2 := comes_1 fun _ _ _ _ _ _ h hF => ⟨h.2.1, hF⟩
end Jvm.Pilot.@@N@@
namespace Jvm.Pilot.@@N@@
open Jvm Jvm.ClassFile Sem Op Lib Jvm.Free Jvm.Stand Jvm.Pilot.@@N@@.Jvm.D
/-! MADE BY PROGRAM (witnessworld.py) out of the Statement's table words and the real class files: 22 classes; the members and pool entries that the words name. The judged class is class 1, her method 6. -/
namespace start1
open Jvm.ClassFile
def u (s : String) : CpInfo := .utf8 (stringToUtf16 s)
/-- a pool by its gaps: so many unusable entries, then the entry; so many at the end -/
def gap : Nat → List CpInfo → List CpInfo
  | 0, r => r
  | n + 1, r => .unusable :: gap n r
def poolList (es : List (Nat × CpInfo)) (last : Nat) : List CpInfo := es.foldr (fun e r => gap e.1 (e.2 :: r)) (gap last [])
def pool (es : List (Nat × CpInfo)) (last : Nat) : Array CpInfo := ⟨poolList es last⟩
def fileOf (pool : Array CpInfo) (this : Nat) (attrs : Array Attribute := #[]) (ms : Array MethodInfo := #[]) (fl : Nat := 33) (sup : Nat := 0) (ifs : Array Nat := #[]) (fds : Array FieldInfo := #[]) : ClassFile where
  minorVersion := 0
  majorVersion := 65
  constantPool := pool
  accessFlags := fl
  thisClass := this
  superClass := sup
  interfaces := ifs
  fields := fds
  methods := ms
  attributes := attrs
def plain (name : String) (sup : Option ClassId) : Class where
  name := name
  kind := .ordinary
  loader := none
  accessFlags := 33
  super := sup
  interfaces := #[]
  cf := none
  fields := #[]
  methods := #[]
  instanceTypes := #[]
  staticTypes := #[]
  resolved := #[]
  callSites := []
  init := .initialized
  statics := none
  mirror := none

def pool0 : Array CpInfo := pool [(5, u "<init>"), (0, u "()V"), (1, .class_ 10), (1, u "java/lang/Object")] 113

def k0c0 : Code := { maxStack := 0, maxLocals := 1, code := object_method_1_code, exceptionTable := #[], attributes := #[] }
def k0m0 : Method := { name := "<init>", desc := "()V", sig := { parameters := [], returnType := none }, accessFlags := 1, code := some k0c0 }
/-- java/lang/Object -/
def k0 : Class := { plain "java/lang/Object" none with
  accessFlags := 33
  interfaces := #[]
  cf := some (fileOf pool0 8 #[] #[{ accessFlags := 1, nameIndex := 5, descriptorIndex := 6, attributes := #[] }] 33 0 #[] #[])
  fields := #[]
  methods := #[k0m0]
  instanceTypes := #[]
  staticTypes := #[]
  resolved := Array.replicate 124 none
  statics := none }

def pool1 : Array CpInfo := pool [(2, .class_ 4), (1, u "java/lang/Object"), (0, u "<init>"), (0, u "()V"), (0, .long 3), (1, .long 65535), (1, .integer 55296), (0, .integer 56320), (0, .integer 56319), (0, .integer 57343), (0, .methodref 16 17), (0, .class_ 18), (0, .nameAndType 19 20), (0, u "com/example/tender/tender/mailbox/MailAbstractOfPinLaw"), (0, u "high"), (0, u "(C)Z"), (0, .methodref 16 22), (0, .nameAndType 23 20), (0, u "low"), (0, .methodref 16 25), (0, .nameAndType 26 27), (0, u "mk"), (0, u "(J)C"), (0, .string 29), (0, u ""), (0, .methodref 31 32), (0, .class_ 33), (0, .nameAndType 34 35), (0, u "com/example/tender/tender/mailbox/MailAbstract"), (0, u "of"), (0, u "(Ljava/lang/String;)Ljava/lang/String;"), (0, .methodref 37 38), (0, .class_ 39), (0, .nameAndType 40 41), (0, u "java/lang/String"), (0, u "equals"), (0, u "(Ljava/lang/Object;)Z"), (0, .methodref 37 43), (0, .nameAndType 5 44), (0, u "([C)V"), (0, .methodref 16 46), (0, .nameAndType 47 48), (0, u "step"), (0, u "([CI)I"), (0, .methodref 16 50), (0, .nameAndType 51 52), (0, u "copyKey"), (0, u "([C[C)V"), (3, u "law"), (0, u "(JJJI)Z")] 4

def k1m0 : Method := { name := "<init>", desc := "()V", sig := { parameters := [], returnType := none }, accessFlags := 1, code := none }
def k1c1 : Code := { maxStack := 4, maxLocals := 4, code := method_2_code, exceptionTable := #[], attributes := #[] }
def k1m1 : Method := { name := "mk", desc := "(J)C", sig := { parameters := [.long], returnType := some .char }, accessFlags := 10, code := some k1c1 }
def k1c2 : Code := { maxStack := 2, maxLocals := 1, code := method_3_code, exceptionTable := #[], attributes := #[] }
def k1m2 : Method := { name := "high", desc := "(C)Z", sig := { parameters := [.char], returnType := some .boolean }, accessFlags := 10, code := some k1c2 }
def k1c3 : Code := { maxStack := 2, maxLocals := 1, code := method_4_code, exceptionTable := #[], attributes := #[] }
def k1m3 : Method := { name := "low", desc := "(C)Z", sig := { parameters := [.char], returnType := some .boolean }, accessFlags := 10, code := some k1c3 }
def k1c4 : Code := { maxStack := 3, maxLocals := 2, code := method_5_code, exceptionTable := #[], attributes := #[] }
def k1m4 : Method := { name := "step", desc := "([CI)I", sig := { parameters := [(.array .char), .int], returnType := some .int }, accessFlags := 10, code := some k1c4 }
def k1c5 : Code := { maxStack := 4, maxLocals := 2, code := method_6_code, exceptionTable := #[], attributes := #[] }
def k1m5 : Method := { name := "copyKey", desc := "([C[C)V", sig := { parameters := [(.array .char), (.array .char)], returnType := none }, accessFlags := 10, code := some k1c5 }
def k1c6 : Code := { maxStack := 4, maxLocals := 24, code := code, exceptionTable := #[], attributes := #[] }
def k1m6 : Method := { name := "law", desc := "(JJJI)Z", sig := { parameters := [.long, .long, .long, .int], returnType := some .boolean }, accessFlags := 9, code := some k1c6 }
/-- com/example/tender/tender/mailbox/MailAbstractOfPinLaw -/
def k1 : Class := { plain "com/example/tender/tender/mailbox/MailAbstractOfPinLaw" (some 0) with
  accessFlags := 49
  interfaces := #[]
  cf := some (fileOf pool1 16 #[] #[{ accessFlags := 1, nameIndex := 5, descriptorIndex := 6, attributes := #[] }, { accessFlags := 10, nameIndex := 26, descriptorIndex := 27, attributes := #[] }, { accessFlags := 10, nameIndex := 19, descriptorIndex := 20, attributes := #[] }, { accessFlags := 10, nameIndex := 23, descriptorIndex := 20, attributes := #[] }, { accessFlags := 10, nameIndex := 47, descriptorIndex := 48, attributes := #[] }, { accessFlags := 10, nameIndex := 51, descriptorIndex := 52, attributes := #[] }, { accessFlags := 9, nameIndex := 56, descriptorIndex := 57, attributes := #[] }] 49 2 #[] #[])
  fields := #[]
  methods := #[k1m0, k1m1, k1m2, k1m3, k1m4, k1m5, k1m6]
  instanceTypes := #[]
  staticTypes := #[]
  resolved := Array.replicate 62 none
  statics := none }

def pool2 : Array CpInfo := pool [(1, .class_ 2), (0, u "java/io/Serializable"), (0, .class_ 4), (0, u "java/lang/Object")] 2

/-- java/io/Serializable -/
def k2 : Class := { plain "java/io/Serializable" (some 0) with
  accessFlags := 1537
  interfaces := #[]
  cf := some (fileOf pool2 1 #[] #[] 1537 3 #[] #[])
  fields := #[]
  methods := #[]
  instanceTypes := #[]
  staticTypes := #[]
  resolved := Array.replicate 7 none
  statics := none }

def pool3 : Array CpInfo := pool [(1, .class_ 2), (0, u "java/lang/Comparable"), (0, .class_ 4), (0, u "java/lang/Object")] 7

/-- java/lang/Comparable -/
def k3 : Class := { plain "java/lang/Comparable" (some 0) with
  accessFlags := 1537
  interfaces := #[]
  cf := some (fileOf pool3 1 #[] #[] 1537 3 #[] #[])
  fields := #[]
  methods := #[]
  instanceTypes := #[]
  staticTypes := #[]
  resolved := Array.replicate 12 none
  statics := none }

def pool4 : Array CpInfo := pool [(2, .class_ 4), (1, u "java/lang/CharSequence"), (0, u "length"), (0, u "()I"), (38, u "charAt"), (0, u "(I)C"), (0, .class_ 48), (0, u "java/lang/CharSequence$1CodePointIterator"), (10, .class_ 60), (0, u "java/lang/CharSequence$1CharIterator"), (5, .class_ 67), (0, u "java/lang/Object")] 63

def k4m0 : Method := { name := "length", desc := "()I", sig := { parameters := [], returnType := some .int }, accessFlags := 1025, code := none }
def k4m1 : Method := { name := "charAt", desc := "(I)C", sig := { parameters := [.int], returnType := some .char }, accessFlags := 1025, code := none }
/-- java/lang/CharSequence -/
def k4 : Class := { plain "java/lang/CharSequence" (some 0) with
  accessFlags := 1537
  interfaces := #[]
  cf := some (fileOf pool4 2 #[.nestMembers #[47, 59]] #[{ accessFlags := 1025, nameIndex := 5, descriptorIndex := 6, attributes := #[] }, { accessFlags := 1025, nameIndex := 45, descriptorIndex := 46, attributes := #[] }] 1537 66 #[] #[])
  fields := #[]
  methods := #[k4m0, k4m1]
  instanceTypes := #[]
  staticTypes := #[]
  resolved := Array.replicate 131 none
  statics := none }

def pool5 : Array CpInfo := pool [(1, .class_ 2), (0, u "java/lang/constant/Constable"), (0, .class_ 4), (0, u "java/lang/Object")] 6

/-- java/lang/constant/Constable -/
def k5 : Class := { plain "java/lang/constant/Constable" (some 0) with
  accessFlags := 1537
  interfaces := #[]
  cf := some (fileOf pool5 1 #[] #[] 1537 3 #[] #[])
  fields := #[]
  methods := #[]
  instanceTypes := #[]
  staticTypes := #[]
  resolved := Array.replicate 11 none
  statics := none }

def pool6 : Array CpInfo := pool [(1, .class_ 2), (0, u "java/lang/constant/ConstantDesc"), (0, .class_ 4), (0, u "java/lang/Object")] 32

/-- java/lang/constant/ConstantDesc -/
def k6 : Class := { plain "java/lang/constant/ConstantDesc" (some 0) with
  accessFlags := 1537
  interfaces := #[]
  cf := some (fileOf pool6 1 #[] #[] 1537 3 #[] #[])
  fields := #[]
  methods := #[]
  instanceTypes := #[]
  staticTypes := #[]
  resolved := Array.replicate 37 none
  statics := none }

def pool7 : Array CpInfo := pool [(1, .methodref 2 3), (0, .class_ 4), (0, .nameAndType 5 6), (0, u "java/lang/Object"), (0, u "<init>"), (0, u "()V"), (2, .fieldref 10 11), (0, .class_ 12), (0, .nameAndType 13 14), (0, u "java/lang/String"), (0, u "value"), (0, u "[B"), (0, .fieldref 10 16), (0, .nameAndType 17 18), (0, u "coder"), (0, u "B"), (2, u "hash"), (0, u "I"), (2, u "hashIsZero"), (0, u "Z"), (0, .methodref 10 28), (0, .nameAndType 5 29), (0, u "([CIILjava/lang/Void;)V"), (6, u "checkBoundsOffCount"), (0, u "(III)I"), (0, .fieldref 10 39), (0, .nameAndType 40 26), (0, u "COMPACT_STRINGS"), (1, .class_ 44), (1, u "java/lang/StringUTF16"), (0, u "compress"), (1, .methodref 42 48), (0, .nameAndType 49 50), (0, u "coderFromArrayLen"), (0, u "([BI)B"), (56, .class_ 109), (1, u "java/lang/StringLatin1"), (32, u "()Z"), (34, .methodref 42 178), (0, .nameAndType 45 179), (0, u "([CII)[B"), (31, u "([BB)V"), (122, u "()I"), (0, .methodref 10 336), (0, .nameAndType 17 337), (0, u "()B"), (25, u "([BI)C"), (1, .class_ 367), (1, u "java/lang/Character"), (23, u "(II)V"), (35, u "(I)C"), (64, .methodref 10 493), (0, .nameAndType 494 142), (0, u "isLatin1"), (0, .methodref 107 496), (0, .nameAndType 497 363), (0, u "charAt"), (0, .methodref 42 496), (2, u "checkIndex"), (3, .methodref 10 506), (0, .nameAndType 507 334), (0, u "length"), (5, u "checkFromToIndex"), (3, .methodref 365 518), (0, .nameAndType 519 520), (0, u "offsetByCodePoints"), (0, u "(Ljava/lang/CharSequence;II)I"), (0, .methodref 10 522), (0, .nameAndType 523 524), (0, u "checkBoundsBeginEnd"), (0, u "(III)V"), (16, .methodref 107 542), (0, .nameAndType 543 544), (0, u "equals"), (0, u "([B[B)Z"), (28, u "(Ljava/lang/Object;)Z"), (1, .class_ 576), (0, u "java/lang/CharSequence"), (22, u "CASE_INSENSITIVE_ORDER"), (0, u "Ljava/util/Comparator;"), (35, u "(II)I"), (46, u "substring"), (0, u "(II)Ljava/lang/String;"), (0, .methodref 107 686), (0, .nameAndType 687 688), (0, u "newString"), (0, u "([BII)Ljava/lang/String;"), (0, .methodref 42 686), (320, u "([C)V"), (42, .fieldref 1054 1055), (0, .class_ 1056), (0, .nameAndType 1057 1058), (0, u "jdk/internal/util/Preconditions"), (0, u "SIOOBE_FORMATTER"), (0, u "Ljava/util/function/BiFunction;"), (0, .methodref 1054 1060), (0, .nameAndType 501 1061), (0, u "(IILjava/util/function/BiFunction;)I"), (0, .methodref 1054 1063), (0, .nameAndType 513 1064), (0, u "(IIILjava/util/function/BiFunction;)I"), (0, .methodref 1054 1066), (0, .nameAndType 1067 1064), (0, u "checkFromIndexSize"), (33, u "serialPersistentFields"), (0, u "[Ljava/io/ObjectStreamField;"), (0, .class_ 1104), (0, u "java/lang/String$CaseInsensitiveComparator"), (1, .class_ 1107), (0, u "java/io/Serializable"), (0, .class_ 1109), (0, u "java/lang/Comparable"), (0, .class_ 1111), (0, u "java/lang/constant/Constable"), (0, .class_ 1113), (0, u "java/lang/constant/ConstantDesc"), (2, u "serialVersionUID"), (0, u "J"), (3, u "REPL"), (0, u "C"), (2, u "LATIN1"), (1, u "UTF16")] 323

def k7m0 : Method := { name := "<init>", desc := "()V", sig := { parameters := [], returnType := none }, accessFlags := 1, code := none }
def k7c1 : Code := { maxStack := 5, maxLocals := 2, code := jdk_42_method_3_code, exceptionTable := #[], attributes := #[] }
def k7m1 : Method := { name := "<init>", desc := "([C)V", sig := { parameters := [(.array .char)], returnType := none }, accessFlags := 1, code := some k7c1 }
def k7c2 : Code := { maxStack := 2, maxLocals := 1, code := jdk_42_method_54_code, exceptionTable := #[], attributes := #[] }
def k7m2 : Method := { name := "length", desc := "()I", sig := { parameters := [], returnType := some .int }, accessFlags := 1, code := some k7c2 }
def k7c3 : Code := { maxStack := 2, maxLocals := 2, code := jdk_42_method_56_code, exceptionTable := #[], attributes := #[] }
def k7m3 : Method := { name := "charAt", desc := "(I)C", sig := { parameters := [.int], returnType := some .char }, accessFlags := 1, code := some k7c3 }
def k7c4 : Code := { maxStack := 3, maxLocals := 3, code := jdk_42_method_60_code, exceptionTable := #[], attributes := #[] }
def k7m4 : Method := { name := "offsetByCodePoints", desc := "(II)I", sig := { parameters := [.int, .int], returnType := some .int }, accessFlags := 1, code := some k7c4 }
def k7c5 : Code := { maxStack := 2, maxLocals := 3, code := jdk_42_method_66_code, exceptionTable := #[], attributes := #[] }
def k7m5 : Method := { name := "equals", desc := "(Ljava/lang/Object;)Z", sig := { parameters := [(.object "java/lang/Object")], returnType := some .boolean }, accessFlags := 1, code := some k7c5 }
def k7c6 : Code := { maxStack := 3, maxLocals := 5, code := jdk_42_method_92_code, exceptionTable := #[], attributes := #[] }
def k7m6 : Method := { name := "substring", desc := "(II)Ljava/lang/String;", sig := { parameters := [.int, .int], returnType := some (.object "java/lang/String") }, accessFlags := 1, code := some k7c6 }
def k7c7 : Code := { maxStack := 4, maxLocals := 6, code := jdk_42_method_149_code, exceptionTable := #[], attributes := #[] }
def k7m7 : Method := { name := "<init>", desc := "([CIILjava/lang/Void;)V", sig := { parameters := [(.array .char), .int, .int, (.object "java/lang/Void")], returnType := none }, accessFlags := 2, code := some k7c7 }
def k7c8 : Code := { maxStack := 2, maxLocals := 3, code := jdk_42_method_151_code, exceptionTable := #[], attributes := #[] }
def k7m8 : Method := { name := "<init>", desc := "([BB)V", sig := { parameters := [(.array .byte), .byte], returnType := none }, accessFlags := 0, code := some k7c8 }
def k7c9 : Code := { maxStack := 1, maxLocals := 1, code := jdk_42_method_152_code, exceptionTable := #[], attributes := #[] }
def k7m9 : Method := { name := "coder", desc := "()B", sig := { parameters := [], returnType := some .byte }, accessFlags := 0, code := some k7c9 }
def k7c10 : Code := { maxStack := 1, maxLocals := 1, code := jdk_42_method_154_code, exceptionTable := #[], attributes := #[] }
def k7m10 : Method := { name := "isLatin1", desc := "()Z", sig := { parameters := [], returnType := some .boolean }, accessFlags := 0, code := some k7c10 }
def k7c11 : Code := { maxStack := 3, maxLocals := 2, code := jdk_42_method_155_code, exceptionTable := #[], attributes := #[] }
def k7m11 : Method := { name := "checkIndex", desc := "(II)V", sig := { parameters := [.int, .int], returnType := none }, accessFlags := 8, code := some k7c11 }
def k7c12 : Code := { maxStack := 4, maxLocals := 3, code := jdk_42_method_157_code, exceptionTable := #[], attributes := #[] }
def k7m12 : Method := { name := "checkBoundsOffCount", desc := "(III)I", sig := { parameters := [.int, .int, .int], returnType := some .int }, accessFlags := 8, code := some k7c12 }
def k7c13 : Code := { maxStack := 4, maxLocals := 3, code := jdk_42_method_158_code, exceptionTable := #[], attributes := #[] }
def k7m13 : Method := { name := "checkBoundsBeginEnd", desc := "(III)V", sig := { parameters := [.int, .int, .int], returnType := none }, accessFlags := 8, code := some k7c13 }
/-- java/lang/String -/
def k7 : Class := { plain "java/lang/String" (some 0) with
  accessFlags := 49
  interfaces := #[2, 3, 4, 5, 6]
  cf := some (fileOf pool7 10 #[.nestMembers #[1103]] #[{ accessFlags := 1, nameIndex := 5, descriptorIndex := 6, attributes := #[] }, { accessFlags := 1, nameIndex := 5, descriptorIndex := 1010, attributes := #[] }, { accessFlags := 1, nameIndex := 507, descriptorIndex := 334, attributes := #[] }, { accessFlags := 1, nameIndex := 497, descriptorIndex := 427, attributes := #[] }, { accessFlags := 1, nameIndex := 519, descriptorIndex := 636, attributes := #[] }, { accessFlags := 1, nameIndex := 543, descriptorIndex := 573, attributes := #[] }, { accessFlags := 1, nameIndex := 683, descriptorIndex := 684, attributes := #[] }, { accessFlags := 2, nameIndex := 5, descriptorIndex := 29, attributes := #[] }, { accessFlags := 0, nameIndex := 5, descriptorIndex := 211, attributes := #[] }, { accessFlags := 0, nameIndex := 17, descriptorIndex := 337, attributes := #[] }, { accessFlags := 0, nameIndex := 494, descriptorIndex := 142, attributes := #[] }, { accessFlags := 8, nameIndex := 501, descriptorIndex := 391, attributes := #[] }, { accessFlags := 8, nameIndex := 36, descriptorIndex := 37, attributes := #[] }, { accessFlags := 8, nameIndex := 523, descriptorIndex := 524, attributes := #[] }] 49 2 #[1106, 1108, 575, 1110, 1112] #[{ accessFlags := 18, nameIndex := 13, descriptorIndex := 14, attributes := #[] }, { accessFlags := 18, nameIndex := 17, descriptorIndex := 18, attributes := #[] }, { accessFlags := 2, nameIndex := 21, descriptorIndex := 22, attributes := #[] }, { accessFlags := 2, nameIndex := 25, descriptorIndex := 26, attributes := #[] }, { accessFlags := 26, nameIndex := 1116, descriptorIndex := 1117, attributes := #[] }, { accessFlags := 24, nameIndex := 40, descriptorIndex := 26, attributes := #[] }, { accessFlags := 26, nameIndex := 1101, descriptorIndex := 1102, attributes := #[] }, { accessFlags := 26, nameIndex := 1121, descriptorIndex := 1122, attributes := #[] }, { accessFlags := 25, nameIndex := 599, descriptorIndex := 600, attributes := #[] }, { accessFlags := 24, nameIndex := 1125, descriptorIndex := 18, attributes := #[] }, { accessFlags := 24, nameIndex := 1127, descriptorIndex := 18, attributes := #[] }])
  fields := #[{ name := "value", type := (.array .byte), accessFlags := 18, slot := 0, constantValue := 0 }, { name := "coder", type := .byte, accessFlags := 18, slot := 1, constantValue := 0 }, { name := "hash", type := .int, accessFlags := 2, slot := 2, constantValue := 0 }, { name := "hashIsZero", type := .boolean, accessFlags := 2, slot := 3, constantValue := 0 }, { name := "serialVersionUID", type := .long, accessFlags := 26, slot := 0, constantValue := 0 }, { name := "COMPACT_STRINGS", type := .boolean, accessFlags := 24, slot := 1, constantValue := 0 }, { name := "serialPersistentFields", type := (.array (.object "java/io/ObjectStreamField")), accessFlags := 26, slot := 2, constantValue := 0 }, { name := "REPL", type := .char, accessFlags := 26, slot := 3, constantValue := 0 }, { name := "CASE_INSENSITIVE_ORDER", type := (.object "java/util/Comparator"), accessFlags := 25, slot := 4, constantValue := 0 }, { name := "LATIN1", type := .byte, accessFlags := 24, slot := 5, constantValue := 0 }, { name := "UTF16", type := .byte, accessFlags := 24, slot := 6, constantValue := 0 }]
  methods := #[k7m0, k7m1, k7m2, k7m3, k7m4, k7m5, k7m6, k7m7, k7m8, k7m9, k7m10, k7m11, k7m12, k7m13]
  instanceTypes := #[(.array .byte), .byte, .int, .boolean]
  staticTypes := #[.long, .boolean, (.array (.object "java/io/ObjectStreamField")), .char, (.object "java/util/Comparator"), .byte, .byte]
  resolved := Array.replicate 1451 none
  statics := some 0 }

def pool8 : Array CpInfo := pool [(3, .class_ 4), (0, u "java/lang/String"), (1, .class_ 8), (1, u "java/lang/Object"), (0, u "<init>"), (0, u "()V"), (0, .methodref 12 13), (0, .class_ 14), (0, .nameAndType 15 16), (0, u "java/lang/StringUTF16"), (0, u "newBytesLength"), (0, u "(I)I"), (3, .integer 1073741823), (23, .fieldref 12 45), (0, .nameAndType 46 47), (0, u "$assertionsDisabled"), (0, u "Z"), (0, .methodref 12 49), (0, .nameAndType 50 51), (0, u "length"), (0, u "([B)I"), (7, .fieldref 12 60), (0, .nameAndType 61 62), (0, u "HI_BYTE_SHIFT"), (0, u "I"), (0, .fieldref 12 64), (0, .nameAndType 65 62), (0, u "LO_BYTE_SHIFT"), (1, .methodref 12 68), (0, .nameAndType 69 70), (0, u "checkIndex"), (0, u "(I[B)V"), (0, .methodref 12 72), (0, .nameAndType 73 74), (0, u "getChar"), (0, u "([BI)C"), (24, u "(II[B)V"), (7, .methodref 12 108), (0, .nameAndType 109 110), (0, u "newBytesFor"), (0, u "(I)[B"), (0, .methodref 12 112), (0, .nameAndType 113 114), (0, u "putChar"), (0, u "([BII)V"), (0, .methodref 12 116), (0, .nameAndType 117 118), (0, u "compress"), (0, u "([CI[BII)I"), (0, .methodref 12 120), (0, .nameAndType 121 122), (0, u "toBytes"), (0, u "([CII)[B"), (0, .methodref 12 124), (0, .nameAndType 117 125), (0, u "([BI[BII)I"), (0, .methodref 127 128), (0, .class_ 129), (0, .nameAndType 130 131), (0, u "java/util/Arrays"), (0, u "copyOfRange"), (0, u "([BII)[B"), (41, .methodref 12 174), (0, .nameAndType 175 99), (0, u "checkBoundsOffCount"), (75, .fieldref 3 252), (0, .nameAndType 253 47), (0, u "COMPACT_STRINGS"), (3, .methodref 12 258), (0, .nameAndType 117 131), (0, .methodref 12 260), (0, .nameAndType 261 262), (0, u "coderFromArrayLen"), (0, u "([BI)B"), (0, .methodref 3 264), (0, .nameAndType 9 265), (0, u "([BB)V"), (15, u "(III)I"), (45, u "newString"), (0, u "([BII)Ljava/lang/String;"), (40, .class_ 371), (1, u "java/lang/StringUTF16$LinesSpliterator"), (20, u "charAt"), (21, .methodref 3 415), (0, .nameAndType 69 416), (0, u "(II)V"), (2, .methodref 3 420), (0, .nameAndType 175 281), (9, u "MAX_LENGTH"), (196, .class_ 628), (0, u "java/lang/StringUTF16$CodePointsSpliterator"), (0, .class_ 630), (0, u "java/lang/StringUTF16$CharsSpliterator")] 4

def k8m0 : Method := { name := "<init>", desc := "()V", sig := { parameters := [], returnType := none }, accessFlags := 0, code := none }
def k8c1 : Code := { maxStack := 1, maxLocals := 1, code := jdk_52_method_2_code, exceptionTable := #[], attributes := #[] }
def k8m1 : Method := { name := "newBytesFor", desc := "(I)[B", sig := { parameters := [.int], returnType := some (.array .byte) }, accessFlags := 9, code := some k8c1 }
def k8c2 : Code := { maxStack := 4, maxLocals := 1, code := jdk_52_method_3_code, exceptionTable := #[], attributes := #[] }
def k8m2 : Method := { name := "newBytesLength", desc := "(I)I", sig := { parameters := [.int], returnType := some .int }, accessFlags := 9, code := some k8c2 }
def k8c3 : Code := { maxStack := 4, maxLocals := 3, code := jdk_52_method_4_code, exceptionTable := #[], attributes := #[] }
def k8m3 : Method := { name := "putChar", desc := "([BII)V", sig := { parameters := [(.array .byte), .int, .int], returnType := none }, accessFlags := 8, code := some k8c3 }
def k8c4 : Code := { maxStack := 3, maxLocals := 2, code := jdk_52_method_5_code, exceptionTable := #[], attributes := #[] }
def k8m4 : Method := { name := "getChar", desc := "([BI)C", sig := { parameters := [(.array .byte), .int], returnType := some .char }, accessFlags := 8, code := some k8c4 }
def k8c5 : Code := { maxStack := 2, maxLocals := 1, code := jdk_52_method_6_code, exceptionTable := #[], attributes := #[] }
def k8m5 : Method := { name := "length", desc := "([B)I", sig := { parameters := [(.array .byte)], returnType := some .int }, accessFlags := 9, code := some k8c5 }
def k8c6 : Code := { maxStack := 4, maxLocals := 5, code := jdk_52_method_14_code, exceptionTable := #[], attributes := #[] }
def k8m6 : Method := { name := "toBytes", desc := "([CII)[B", sig := { parameters := [(.array .char), .int, .int], returnType := some (.array .byte) }, accessFlags := 9, code := some k8c6 }
def k8c7 : Code := { maxStack := 2, maxLocals := 2, code := jdk_52_method_15_code, exceptionTable := #[], attributes := #[] }
def k8m7 : Method := { name := "coderFromArrayLen", desc := "([BI)B", sig := { parameters := [(.array .byte), .int], returnType := some .byte }, accessFlags := 8, code := some k8c7 }
def k8c8 : Code := { maxStack := 5, maxLocals := 6, code := jdk_52_method_16_code, exceptionTable := #[], attributes := #[] }
def k8m8 : Method := { name := "compress", desc := "([CII)[B", sig := { parameters := [(.array .char), .int, .int], returnType := some (.array .byte) }, accessFlags := 9, code := some k8c8 }
def k8c9 : Code := { maxStack := 5, maxLocals := 6, code := jdk_52_method_17_code, exceptionTable := #[], attributes := #[] }
def k8m9 : Method := { name := "compress", desc := "([BII)[B", sig := { parameters := [(.array .byte), .int, .int], returnType := some (.array .byte) }, accessFlags := 9, code := some k8c9 }
def k8c10 : Code := { maxStack := 3, maxLocals := 7, code := jdk_52_method_21_code, exceptionTable := #[], attributes := #[] }
def k8m10 : Method := { name := "compress", desc := "([CI[BII)I", sig := { parameters := [(.array .char), .int, (.array .byte), .int, .int], returnType := some .int }, accessFlags := 9, code := some k8c10 }
def k8c11 : Code := { maxStack := 3, maxLocals := 7, code := jdk_52_method_22_code, exceptionTable := #[], attributes := #[] }
def k8m11 : Method := { name := "compress", desc := "([BI[BII)I", sig := { parameters := [(.array .byte), .int, (.array .byte), .int, .int], returnType := some .int }, accessFlags := 9, code := some k8c11 }
def k8c12 : Code := { maxStack := 6, maxLocals := 5, code := jdk_52_method_69_code, exceptionTable := #[], attributes := #[] }
def k8m12 : Method := { name := "newString", desc := "([BII)Ljava/lang/String;", sig := { parameters := [(.array .byte), .int, .int], returnType := some (.object "java/lang/String") }, accessFlags := 9, code := some k8c12 }
def k8c13 : Code := { maxStack := 2, maxLocals := 2, code := jdk_52_method_83_code, exceptionTable := #[], attributes := #[] }
def k8m13 : Method := { name := "charAt", desc := "([BI)C", sig := { parameters := [(.array .byte), .int], returnType := some .char }, accessFlags := 9, code := some k8c13 }
def k8c14 : Code := { maxStack := 2, maxLocals := 2, code := jdk_52_method_91_code, exceptionTable := #[], attributes := #[] }
def k8m14 : Method := { name := "checkIndex", desc := "(I[B)V", sig := { parameters := [.int, (.array .byte)], returnType := none }, accessFlags := 9, code := some k8c14 }
def k8c15 : Code := { maxStack := 3, maxLocals := 3, code := jdk_52_method_94_code, exceptionTable := #[], attributes := #[] }
def k8m15 : Method := { name := "checkBoundsOffCount", desc := "(II[B)V", sig := { parameters := [.int, .int, (.array .byte)], returnType := none }, accessFlags := 9, code := some k8c15 }
/-- java/lang/StringUTF16 -/
def k8 : Class := { plain "java/lang/StringUTF16" (some 0) with
  accessFlags := 48
  interfaces := #[]
  cf := some (fileOf pool8 12 #[.nestMembers #[627, 629, 369]] #[{ accessFlags := 0, nameIndex := 9, descriptorIndex := 10, attributes := #[] }, { accessFlags := 9, nameIndex := 109, descriptorIndex := 110, attributes := #[] }, { accessFlags := 9, nameIndex := 15, descriptorIndex := 16, attributes := #[] }, { accessFlags := 8, nameIndex := 113, descriptorIndex := 114, attributes := #[] }, { accessFlags := 8, nameIndex := 73, descriptorIndex := 74, attributes := #[] }, { accessFlags := 9, nameIndex := 50, descriptorIndex := 51, attributes := #[] }, { accessFlags := 9, nameIndex := 121, descriptorIndex := 122, attributes := #[] }, { accessFlags := 8, nameIndex := 261, descriptorIndex := 262, attributes := #[] }, { accessFlags := 9, nameIndex := 117, descriptorIndex := 122, attributes := #[] }, { accessFlags := 9, nameIndex := 117, descriptorIndex := 131, attributes := #[] }, { accessFlags := 9, nameIndex := 117, descriptorIndex := 118, attributes := #[] }, { accessFlags := 9, nameIndex := 117, descriptorIndex := 125, attributes := #[] }, { accessFlags := 9, nameIndex := 327, descriptorIndex := 328, attributes := #[] }, { accessFlags := 9, nameIndex := 392, descriptorIndex := 74, attributes := #[] }, { accessFlags := 9, nameIndex := 69, descriptorIndex := 70, attributes := #[] }, { accessFlags := 9, nameIndex := 175, descriptorIndex := 99, attributes := #[] }] 48 6 #[] #[{ accessFlags := 26, nameIndex := 61, descriptorIndex := 62, attributes := #[] }, { accessFlags := 26, nameIndex := 65, descriptorIndex := 62, attributes := #[] }, { accessFlags := 24, nameIndex := 430, descriptorIndex := 62, attributes := #[] }, { accessFlags := 4120, nameIndex := 46, descriptorIndex := 47, attributes := #[] }])
  fields := #[{ name := "HI_BYTE_SHIFT", type := .int, accessFlags := 26, slot := 0, constantValue := 0 }, { name := "LO_BYTE_SHIFT", type := .int, accessFlags := 26, slot := 1, constantValue := 0 }, { name := "MAX_LENGTH", type := .int, accessFlags := 24, slot := 2, constantValue := 0 }, { name := "$assertionsDisabled", type := .boolean, accessFlags := 4120, slot := 3, constantValue := 0 }]
  methods := #[k8m0, k8m1, k8m2, k8m3, k8m4, k8m5, k8m6, k8m7, k8m8, k8m9, k8m10, k8m11, k8m12, k8m13, k8m14, k8m15]
  instanceTypes := #[]
  staticTypes := #[.int, .int, .int, .boolean]
  resolved := Array.replicate 635 none
  statics := some 1 }

def pool9 : Array CpInfo := pool [(2, .class_ 4), (1, u "java/lang/Object"), (0, u "<init>"), (0, u "()V"), (0, .class_ 8), (0, u "com/example/tender/tender/mailbox/MailAbstract"), (0, .methodref 10 11), (0, .class_ 12), (0, .nameAndType 13 14), (0, u "java/lang/String"), (0, u "length"), (0, u "()I"), (0, .methodref 10 16), (0, .nameAndType 17 18), (0, u "offsetByCodePoints"), (0, u "(II)I"), (0, .methodref 10 20), (0, .nameAndType 21 22), (0, u "substring"), (0, u "(II)Ljava/lang/String;"), (0, u "LENGTH"), (0, u "I"), (4, u "of"), (0, u "(Ljava/lang/String;)Ljava/lang/String;")] 3

def k9m0 : Method := { name := "<init>", desc := "()V", sig := { parameters := [], returnType := none }, accessFlags := 2, code := none }
def k9c1 : Code := { maxStack := 3, maxLocals := 3, code := prog_7_method_2_code, exceptionTable := #[], attributes := #[] }
def k9m1 : Method := { name := "of", desc := "(Ljava/lang/String;)Ljava/lang/String;", sig := { parameters := [(.object "java/lang/String")], returnType := some (.object "java/lang/String") }, accessFlags := 9, code := some k9c1 }
/-- com/example/tender/tender/mailbox/MailAbstract -/
def k9 : Class := { plain "com/example/tender/tender/mailbox/MailAbstract" (some 0) with
  accessFlags := 49
  interfaces := #[]
  cf := some (fileOf pool9 7 #[] #[{ accessFlags := 2, nameIndex := 5, descriptorIndex := 6, attributes := #[] }, { accessFlags := 9, nameIndex := 29, descriptorIndex := 30, attributes := #[] }] 49 2 #[] #[{ accessFlags := 25, nameIndex := 23, descriptorIndex := 24, attributes := #[] }])
  fields := #[{ name := "LENGTH", type := .int, accessFlags := 25, slot := 0, constantValue := 0 }]
  methods := #[k9m0, k9m1]
  instanceTypes := #[]
  staticTypes := #[.int]
  resolved := Array.replicate 34 none
  statics := none }

def pool10 : Array CpInfo := pool [(1, .class_ 2), (0, u "java/lang/Character"), (18, u "value"), (0, u "C"), (19, .class_ 44), (1, u "java/lang/Object"), (3, .class_ 50), (1, u "java/lang/Character$CharacterCache"), (24, .integer 55296), (0, .integer 56320), (0, .integer 57344), (0, .methodref 1 79), (0, .nameAndType 80 81), (0, u "isHighSurrogate"), (0, u "(C)Z"), (0, .methodref 1 83), (0, .nameAndType 84 81), (0, u "isLowSurrogate"), (1, .interfaceMethodref 87 88), (0, .class_ 89), (0, .nameAndType 90 91), (0, u "java/lang/CharSequence"), (0, u "charAt"), (0, u "(I)C"), (0, .interfaceMethodref 87 93), (0, .nameAndType 94 95), (0, u "length"), (0, u "()I"), (188, u "$assertionsDisabled"), (0, u "Z"), (21, .class_ 309), (1, u "java/lang/Character$UnicodeBlock"), (73, u "TYPE"), (0, u "Ljava/lang/Class;"), (0, .class_ 386), (0, u "java/io/Serializable"), (0, .class_ 388), (0, u "java/lang/Comparable"), (0, .class_ 390), (0, u "java/lang/constant/Constable"), (0, u "MIN_RADIX"), (0, u "I"), (2, u "MAX_RADIX"), (1, u "MIN_VALUE"), (1, u "MAX_VALUE"), (3, u "UNASSIGNED"), (0, u "B"), (0, u "UPPERCASE_LETTER"), (1, u "LOWERCASE_LETTER"), (0, u "TITLECASE_LETTER"), (1, u "MODIFIER_LETTER"), (1, u "OTHER_LETTER"), (1, u "NON_SPACING_MARK"), (1, u "ENCLOSING_MARK"), (1, u "COMBINING_SPACING_MARK"), (1, u "DECIMAL_DIGIT_NUMBER"), (1, u "LETTER_NUMBER"), (1, u "OTHER_NUMBER"), (1, u "SPACE_SEPARATOR"), (1, u "LINE_SEPARATOR"), (1, u "PARAGRAPH_SEPARATOR"), (1, u "CONTROL"), (1, u "FORMAT"), (1, u "PRIVATE_USE"), (1, u "SURROGATE"), (1, u "DASH_PUNCTUATION"), (1, u "START_PUNCTUATION"), (1, u "END_PUNCTUATION"), (1, u "CONNECTOR_PUNCTUATION"), (1, u "OTHER_PUNCTUATION"), (1, u "MATH_SYMBOL"), (1, u "CURRENCY_SYMBOL"), (1, u "MODIFIER_SYMBOL"), (1, u "OTHER_SYMBOL"), (1, u "INITIAL_QUOTE_PUNCTUATION"), (1, u "FINAL_QUOTE_PUNCTUATION"), (1, u "ERROR"), (1, u "DIRECTIONALITY_UNDEFINED"), (0, u "DIRECTIONALITY_LEFT_TO_RIGHT"), (0, u "DIRECTIONALITY_RIGHT_TO_LEFT"), (0, u "DIRECTIONALITY_RIGHT_TO_LEFT_ARABIC"), (0, u "DIRECTIONALITY_EUROPEAN_NUMBER"), (0, u "DIRECTIONALITY_EUROPEAN_NUMBER_SEPARATOR"), (0, u "DIRECTIONALITY_EUROPEAN_NUMBER_TERMINATOR"), (0, u "DIRECTIONALITY_ARABIC_NUMBER"), (0, u "DIRECTIONALITY_COMMON_NUMBER_SEPARATOR"), (0, u "DIRECTIONALITY_NONSPACING_MARK"), (0, u "DIRECTIONALITY_BOUNDARY_NEUTRAL"), (0, u "DIRECTIONALITY_PARAGRAPH_SEPARATOR"), (0, u "DIRECTIONALITY_SEGMENT_SEPARATOR"), (0, u "DIRECTIONALITY_WHITESPACE"), (0, u "DIRECTIONALITY_OTHER_NEUTRALS"), (0, u "DIRECTIONALITY_LEFT_TO_RIGHT_EMBEDDING"), (0, u "DIRECTIONALITY_LEFT_TO_RIGHT_OVERRIDE"), (0, u "DIRECTIONALITY_RIGHT_TO_LEFT_EMBEDDING"), (0, u "DIRECTIONALITY_RIGHT_TO_LEFT_OVERRIDE"), (1, u "DIRECTIONALITY_POP_DIRECTIONAL_FORMAT"), (0, u "DIRECTIONALITY_LEFT_TO_RIGHT_ISOLATE"), (0, u "DIRECTIONALITY_RIGHT_TO_LEFT_ISOLATE"), (0, u "DIRECTIONALITY_FIRST_STRONG_ISOLATE"), (0, u "DIRECTIONALITY_POP_DIRECTIONAL_ISOLATE"), (0, u "MIN_HIGH_SURROGATE"), (0, u "MAX_HIGH_SURROGATE"), (1, u "MIN_LOW_SURROGATE"), (0, u "MAX_LOW_SURROGATE"), (1, u "MIN_SURROGATE"), (0, u "MAX_SURROGATE"), (0, u "MIN_SUPPLEMENTARY_CODE_POINT"), (0, u "MIN_CODE_POINT"), (0, u "MAX_CODE_POINT"), (1, u "serialVersionUID"), (0, u "J"), (2, u "SIZE"), (0, u "BYTES"), (49, u "(Ljava/lang/CharSequence;II)I"), (6, u "offsetByCodePoints"), (31, .class_ 596), (0, u "java/lang/Character$UnicodeScript"), (0, .class_ 598), (0, u "java/lang/Character$Subset")] 5

def k10c0 : Code := { maxStack := 2, maxLocals := 1, code := jdk_89_method_14_code, exceptionTable := #[], attributes := #[] }
def k10m0 : Method := { name := "isHighSurrogate", desc := "(C)Z", sig := { parameters := [.char], returnType := some .boolean }, accessFlags := 9, code := some k10c0 }
def k10c1 : Code := { maxStack := 2, maxLocals := 1, code := jdk_89_method_15_code, exceptionTable := #[], attributes := #[] }
def k10m1 : Method := { name := "isLowSurrogate", desc := "(C)Z", sig := { parameters := [.char], returnType := some .boolean }, accessFlags := 9, code := some k10c1 }
def k10c2 : Code := { maxStack := 3, maxLocals := 6, code := jdk_89_method_36_code, exceptionTable := #[], attributes := #[] }
def k10m2 : Method := { name := "offsetByCodePoints", desc := "(Ljava/lang/CharSequence;II)I", sig := { parameters := [(.object "java/lang/CharSequence"), .int, .int], returnType := some .int }, accessFlags := 9, code := some k10c2 }
/-- java/lang/Character -/
def k10 : Class := { plain "java/lang/Character" (some 0) with
  accessFlags := 49
  interfaces := #[2, 3, 5]
  cf := some (fileOf pool10 1 #[.nestMembers #[48, 595, 307, 597]] #[{ accessFlags := 9, nameIndex := 80, descriptorIndex := 81, attributes := #[] }, { accessFlags := 9, nameIndex := 84, descriptorIndex := 81, attributes := #[] }, { accessFlags := 9, nameIndex := 563, descriptorIndex := 556, attributes := #[] }] 49 42 #[385, 387, 389] #[{ accessFlags := 25, nameIndex := 391, descriptorIndex := 392, attributes := #[] }, { accessFlags := 25, nameIndex := 395, descriptorIndex := 392, attributes := #[] }, { accessFlags := 25, nameIndex := 397, descriptorIndex := 22, attributes := #[] }, { accessFlags := 25, nameIndex := 399, descriptorIndex := 22, attributes := #[] }, { accessFlags := 25, nameIndex := 383, descriptorIndex := 384, attributes := #[] }, { accessFlags := 25, nameIndex := 403, descriptorIndex := 404, attributes := #[] }, { accessFlags := 25, nameIndex := 405, descriptorIndex := 404, attributes := #[] }, { accessFlags := 25, nameIndex := 407, descriptorIndex := 404, attributes := #[] }, { accessFlags := 25, nameIndex := 408, descriptorIndex := 404, attributes := #[] }, { accessFlags := 25, nameIndex := 410, descriptorIndex := 404, attributes := #[] }, { accessFlags := 25, nameIndex := 412, descriptorIndex := 404, attributes := #[] }, { accessFlags := 25, nameIndex := 414, descriptorIndex := 404, attributes := #[] }, { accessFlags := 25, nameIndex := 416, descriptorIndex := 404, attributes := #[] }, { accessFlags := 25, nameIndex := 418, descriptorIndex := 404, attributes := #[] }, { accessFlags := 25, nameIndex := 420, descriptorIndex := 404, attributes := #[] }, { accessFlags := 25, nameIndex := 422, descriptorIndex := 404, attributes := #[] }, { accessFlags := 25, nameIndex := 424, descriptorIndex := 404, attributes := #[] }, { accessFlags := 25, nameIndex := 426, descriptorIndex := 404, attributes := #[] }, { accessFlags := 25, nameIndex := 428, descriptorIndex := 404, attributes := #[] }, { accessFlags := 25, nameIndex := 430, descriptorIndex := 404, attributes := #[] }, { accessFlags := 25, nameIndex := 432, descriptorIndex := 404, attributes := #[] }, { accessFlags := 25, nameIndex := 434, descriptorIndex := 404, attributes := #[] }, { accessFlags := 25, nameIndex := 436, descriptorIndex := 404, attributes := #[] }, { accessFlags := 25, nameIndex := 438, descriptorIndex := 404, attributes := #[] }, { accessFlags := 25, nameIndex := 440, descriptorIndex := 404, attributes := #[] }, { accessFlags := 25, nameIndex := 442, descriptorIndex := 404, attributes := #[] }, { accessFlags := 25, nameIndex := 444, descriptorIndex := 404, attributes := #[] }, { accessFlags := 25, nameIndex := 446, descriptorIndex := 404, attributes := #[] }, { accessFlags := 25, nameIndex := 448, descriptorIndex := 404, attributes := #[] }, { accessFlags := 25, nameIndex := 450, descriptorIndex := 404, attributes := #[] }, { accessFlags := 25, nameIndex := 452, descriptorIndex := 404, attributes := #[] }, { accessFlags := 25, nameIndex := 454, descriptorIndex := 404, attributes := #[] }, { accessFlags := 25, nameIndex := 456, descriptorIndex := 404, attributes := #[] }, { accessFlags := 25, nameIndex := 458, descriptorIndex := 404, attributes := #[] }, { accessFlags := 25, nameIndex := 460, descriptorIndex := 404, attributes := #[] }, { accessFlags := 24, nameIndex := 462, descriptorIndex := 392, attributes := #[] }, { accessFlags := 25, nameIndex := 464, descriptorIndex := 404, attributes := #[] }, { accessFlags := 25, nameIndex := 465, descriptorIndex := 404, attributes := #[] }, { accessFlags := 25, nameIndex := 466, descriptorIndex := 404, attributes := #[] }, { accessFlags := 25, nameIndex := 467, descriptorIndex := 404, attributes := #[] }, { accessFlags := 25, nameIndex := 468, descriptorIndex := 404, attributes := #[] }, { accessFlags := 25, nameIndex := 469, descriptorIndex := 404, attributes := #[] }, { accessFlags := 25, nameIndex := 470, descriptorIndex := 404, attributes := #[] }, { accessFlags := 25, nameIndex := 471, descriptorIndex := 404, attributes := #[] }, { accessFlags := 25, nameIndex := 472, descriptorIndex := 404, attributes := #[] }, { accessFlags := 25, nameIndex := 473, descriptorIndex := 404, attributes := #[] }, { accessFlags := 25, nameIndex := 474, descriptorIndex := 404, attributes := #[] }, { accessFlags := 25, nameIndex := 475, descriptorIndex := 404, attributes := #[] }, { accessFlags := 25, nameIndex := 476, descriptorIndex := 404, attributes := #[] }, { accessFlags := 25, nameIndex := 477, descriptorIndex := 404, attributes := #[] }, { accessFlags := 25, nameIndex := 478, descriptorIndex := 404, attributes := #[] }, { accessFlags := 25, nameIndex := 479, descriptorIndex := 404, attributes := #[] }, { accessFlags := 25, nameIndex := 480, descriptorIndex := 404, attributes := #[] }, { accessFlags := 25, nameIndex := 481, descriptorIndex := 404, attributes := #[] }, { accessFlags := 25, nameIndex := 482, descriptorIndex := 404, attributes := #[] }, { accessFlags := 25, nameIndex := 484, descriptorIndex := 404, attributes := #[] }, { accessFlags := 25, nameIndex := 485, descriptorIndex := 404, attributes := #[] }, { accessFlags := 25, nameIndex := 486, descriptorIndex := 404, attributes := #[] }, { accessFlags := 25, nameIndex := 487, descriptorIndex := 404, attributes := #[] }, { accessFlags := 25, nameIndex := 488, descriptorIndex := 404, attributes := #[] }, { accessFlags := 25, nameIndex := 489, descriptorIndex := 22, attributes := #[] }, { accessFlags := 25, nameIndex := 490, descriptorIndex := 22, attributes := #[] }, { accessFlags := 25, nameIndex := 492, descriptorIndex := 22, attributes := #[] }, { accessFlags := 25, nameIndex := 493, descriptorIndex := 22, attributes := #[] }, { accessFlags := 25, nameIndex := 495, descriptorIndex := 22, attributes := #[] }, { accessFlags := 25, nameIndex := 496, descriptorIndex := 22, attributes := #[] }, { accessFlags := 25, nameIndex := 497, descriptorIndex := 392, attributes := #[] }, { accessFlags := 25, nameIndex := 498, descriptorIndex := 392, attributes := #[] }, { accessFlags := 25, nameIndex := 499, descriptorIndex := 392, attributes := #[] }, { accessFlags := 18, nameIndex := 21, descriptorIndex := 22, attributes := #[] }, { accessFlags := 26, nameIndex := 501, descriptorIndex := 502, attributes := #[] }, { accessFlags := 25, nameIndex := 505, descriptorIndex := 392, attributes := #[] }, { accessFlags := 25, nameIndex := 506, descriptorIndex := 392, attributes := #[] }, { accessFlags := 4120, nameIndex := 284, descriptorIndex := 285, attributes := #[] }])
  fields := #[{ name := "MIN_RADIX", type := .int, accessFlags := 25, slot := 0, constantValue := 0 }, { name := "MAX_RADIX", type := .int, accessFlags := 25, slot := 1, constantValue := 0 }, { name := "MIN_VALUE", type := .char, accessFlags := 25, slot := 2, constantValue := 0 }, { name := "MAX_VALUE", type := .char, accessFlags := 25, slot := 3, constantValue := 0 }, { name := "TYPE", type := (.object "java/lang/Class"), accessFlags := 25, slot := 4, constantValue := 0 }, { name := "UNASSIGNED", type := .byte, accessFlags := 25, slot := 5, constantValue := 0 }, { name := "UPPERCASE_LETTER", type := .byte, accessFlags := 25, slot := 6, constantValue := 0 }, { name := "LOWERCASE_LETTER", type := .byte, accessFlags := 25, slot := 7, constantValue := 0 }, { name := "TITLECASE_LETTER", type := .byte, accessFlags := 25, slot := 8, constantValue := 0 }, { name := "MODIFIER_LETTER", type := .byte, accessFlags := 25, slot := 9, constantValue := 0 }, { name := "OTHER_LETTER", type := .byte, accessFlags := 25, slot := 10, constantValue := 0 }, { name := "NON_SPACING_MARK", type := .byte, accessFlags := 25, slot := 11, constantValue := 0 }, { name := "ENCLOSING_MARK", type := .byte, accessFlags := 25, slot := 12, constantValue := 0 }, { name := "COMBINING_SPACING_MARK", type := .byte, accessFlags := 25, slot := 13, constantValue := 0 }, { name := "DECIMAL_DIGIT_NUMBER", type := .byte, accessFlags := 25, slot := 14, constantValue := 0 }, { name := "LETTER_NUMBER", type := .byte, accessFlags := 25, slot := 15, constantValue := 0 }, { name := "OTHER_NUMBER", type := .byte, accessFlags := 25, slot := 16, constantValue := 0 }, { name := "SPACE_SEPARATOR", type := .byte, accessFlags := 25, slot := 17, constantValue := 0 }, { name := "LINE_SEPARATOR", type := .byte, accessFlags := 25, slot := 18, constantValue := 0 }, { name := "PARAGRAPH_SEPARATOR", type := .byte, accessFlags := 25, slot := 19, constantValue := 0 }, { name := "CONTROL", type := .byte, accessFlags := 25, slot := 20, constantValue := 0 }, { name := "FORMAT", type := .byte, accessFlags := 25, slot := 21, constantValue := 0 }, { name := "PRIVATE_USE", type := .byte, accessFlags := 25, slot := 22, constantValue := 0 }, { name := "SURROGATE", type := .byte, accessFlags := 25, slot := 23, constantValue := 0 }, { name := "DASH_PUNCTUATION", type := .byte, accessFlags := 25, slot := 24, constantValue := 0 }, { name := "START_PUNCTUATION", type := .byte, accessFlags := 25, slot := 25, constantValue := 0 }, { name := "END_PUNCTUATION", type := .byte, accessFlags := 25, slot := 26, constantValue := 0 }, { name := "CONNECTOR_PUNCTUATION", type := .byte, accessFlags := 25, slot := 27, constantValue := 0 }, { name := "OTHER_PUNCTUATION", type := .byte, accessFlags := 25, slot := 28, constantValue := 0 }, { name := "MATH_SYMBOL", type := .byte, accessFlags := 25, slot := 29, constantValue := 0 }, { name := "CURRENCY_SYMBOL", type := .byte, accessFlags := 25, slot := 30, constantValue := 0 }, { name := "MODIFIER_SYMBOL", type := .byte, accessFlags := 25, slot := 31, constantValue := 0 }, { name := "OTHER_SYMBOL", type := .byte, accessFlags := 25, slot := 32, constantValue := 0 }, { name := "INITIAL_QUOTE_PUNCTUATION", type := .byte, accessFlags := 25, slot := 33, constantValue := 0 }, { name := "FINAL_QUOTE_PUNCTUATION", type := .byte, accessFlags := 25, slot := 34, constantValue := 0 }, { name := "ERROR", type := .int, accessFlags := 24, slot := 35, constantValue := 0 }, { name := "DIRECTIONALITY_UNDEFINED", type := .byte, accessFlags := 25, slot := 36, constantValue := 0 }, { name := "DIRECTIONALITY_LEFT_TO_RIGHT", type := .byte, accessFlags := 25, slot := 37, constantValue := 0 }, { name := "DIRECTIONALITY_RIGHT_TO_LEFT", type := .byte, accessFlags := 25, slot := 38, constantValue := 0 }, { name := "DIRECTIONALITY_RIGHT_TO_LEFT_ARABIC", type := .byte, accessFlags := 25, slot := 39, constantValue := 0 }, { name := "DIRECTIONALITY_EUROPEAN_NUMBER", type := .byte, accessFlags := 25, slot := 40, constantValue := 0 }, { name := "DIRECTIONALITY_EUROPEAN_NUMBER_SEPARATOR", type := .byte, accessFlags := 25, slot := 41, constantValue := 0 }, { name := "DIRECTIONALITY_EUROPEAN_NUMBER_TERMINATOR", type := .byte, accessFlags := 25, slot := 42, constantValue := 0 }, { name := "DIRECTIONALITY_ARABIC_NUMBER", type := .byte, accessFlags := 25, slot := 43, constantValue := 0 }, { name := "DIRECTIONALITY_COMMON_NUMBER_SEPARATOR", type := .byte, accessFlags := 25, slot := 44, constantValue := 0 }, { name := "DIRECTIONALITY_NONSPACING_MARK", type := .byte, accessFlags := 25, slot := 45, constantValue := 0 }, { name := "DIRECTIONALITY_BOUNDARY_NEUTRAL", type := .byte, accessFlags := 25, slot := 46, constantValue := 0 }, { name := "DIRECTIONALITY_PARAGRAPH_SEPARATOR", type := .byte, accessFlags := 25, slot := 47, constantValue := 0 }, { name := "DIRECTIONALITY_SEGMENT_SEPARATOR", type := .byte, accessFlags := 25, slot := 48, constantValue := 0 }, { name := "DIRECTIONALITY_WHITESPACE", type := .byte, accessFlags := 25, slot := 49, constantValue := 0 }, { name := "DIRECTIONALITY_OTHER_NEUTRALS", type := .byte, accessFlags := 25, slot := 50, constantValue := 0 }, { name := "DIRECTIONALITY_LEFT_TO_RIGHT_EMBEDDING", type := .byte, accessFlags := 25, slot := 51, constantValue := 0 }, { name := "DIRECTIONALITY_LEFT_TO_RIGHT_OVERRIDE", type := .byte, accessFlags := 25, slot := 52, constantValue := 0 }, { name := "DIRECTIONALITY_RIGHT_TO_LEFT_EMBEDDING", type := .byte, accessFlags := 25, slot := 53, constantValue := 0 }, { name := "DIRECTIONALITY_RIGHT_TO_LEFT_OVERRIDE", type := .byte, accessFlags := 25, slot := 54, constantValue := 0 }, { name := "DIRECTIONALITY_POP_DIRECTIONAL_FORMAT", type := .byte, accessFlags := 25, slot := 55, constantValue := 0 }, { name := "DIRECTIONALITY_LEFT_TO_RIGHT_ISOLATE", type := .byte, accessFlags := 25, slot := 56, constantValue := 0 }, { name := "DIRECTIONALITY_RIGHT_TO_LEFT_ISOLATE", type := .byte, accessFlags := 25, slot := 57, constantValue := 0 }, { name := "DIRECTIONALITY_FIRST_STRONG_ISOLATE", type := .byte, accessFlags := 25, slot := 58, constantValue := 0 }, { name := "DIRECTIONALITY_POP_DIRECTIONAL_ISOLATE", type := .byte, accessFlags := 25, slot := 59, constantValue := 0 }, { name := "MIN_HIGH_SURROGATE", type := .char, accessFlags := 25, slot := 60, constantValue := 0 }, { name := "MAX_HIGH_SURROGATE", type := .char, accessFlags := 25, slot := 61, constantValue := 0 }, { name := "MIN_LOW_SURROGATE", type := .char, accessFlags := 25, slot := 62, constantValue := 0 }, { name := "MAX_LOW_SURROGATE", type := .char, accessFlags := 25, slot := 63, constantValue := 0 }, { name := "MIN_SURROGATE", type := .char, accessFlags := 25, slot := 64, constantValue := 0 }, { name := "MAX_SURROGATE", type := .char, accessFlags := 25, slot := 65, constantValue := 0 }, { name := "MIN_SUPPLEMENTARY_CODE_POINT", type := .int, accessFlags := 25, slot := 66, constantValue := 0 }, { name := "MIN_CODE_POINT", type := .int, accessFlags := 25, slot := 67, constantValue := 0 }, { name := "MAX_CODE_POINT", type := .int, accessFlags := 25, slot := 68, constantValue := 0 }, { name := "value", type := .char, accessFlags := 18, slot := 0, constantValue := 0 }, { name := "serialVersionUID", type := .long, accessFlags := 26, slot := 69, constantValue := 0 }, { name := "SIZE", type := .int, accessFlags := 25, slot := 70, constantValue := 0 }, { name := "BYTES", type := .int, accessFlags := 25, slot := 71, constantValue := 0 }, { name := "$assertionsDisabled", type := .boolean, accessFlags := 4120, slot := 72, constantValue := 0 }]
  methods := #[k10m0, k10m1, k10m2]
  instanceTypes := #[.char]
  staticTypes := #[.int, .int, .char, .char, (.object "java/lang/Class"), .byte, .byte, .byte, .byte, .byte, .byte, .byte, .byte, .byte, .byte, .byte, .byte, .byte, .byte, .byte, .byte, .byte, .byte, .byte, .byte, .byte, .byte, .byte, .byte, .byte, .byte, .byte, .byte, .byte, .byte, .int, .byte, .byte, .byte, .byte, .byte, .byte, .byte, .byte, .byte, .byte, .byte, .byte, .byte, .byte, .byte, .byte, .byte, .byte, .byte, .byte, .byte, .byte, .byte, .byte, .char, .char, .char, .char, .char, .char, .int, .int, .int, .long, .int, .int, .boolean]
  resolved := Array.replicate 604 none
  statics := none }

def pool11 : Array CpInfo := pool [(2, .class_ 4), (1, u "java/lang/Object"), (0, u "<init>"), (0, u "()V"), (17, .class_ 26), (1, u "jdk/internal/util/Preconditions"), (6, u "checkIndex"), (13, u "checkFromToIndex"), (1, u "checkFromIndexSize"), (5, .class_ 56), (0, u "jdk/internal/util/Preconditions$4"), (57, .class_ 115), (0, u "jdk/internal/util/Preconditions$1"), (7, u "SIOOBE_FORMATTER"), (0, u "Ljava/util/function/BiFunction;"), (0, .class_ 126), (0, u "jdk/internal/util/Preconditions$2"), (3, u "AIOOBE_FORMATTER"), (0, .class_ 132), (0, u "jdk/internal/util/Preconditions$3"), (3, u "IOOBE_FORMATTER"), (41, u "(IILjava/util/function/BiFunction;)I"), (4, u "(IIILjava/util/function/BiFunction;)I")] 10

def k11m0 : Method := { name := "<init>", desc := "()V", sig := { parameters := [], returnType := none }, accessFlags := 1, code := none }
def k11c1 : Code := { maxStack := 3, maxLocals := 3, code := jdk_41_method_11_code, exceptionTable := #[], attributes := #[] }
def k11m1 : Method := { name := "checkIndex", desc := "(IILjava/util/function/BiFunction;)I", sig := { parameters := [.int, .int, (.object "java/util/function/BiFunction")], returnType := some .int }, accessFlags := 9, code := some k11c1 }
def k11c2 : Code := { maxStack := 4, maxLocals := 4, code := jdk_41_method_12_code, exceptionTable := #[], attributes := #[] }
def k11m2 : Method := { name := "checkFromToIndex", desc := "(IIILjava/util/function/BiFunction;)I", sig := { parameters := [.int, .int, .int, (.object "java/util/function/BiFunction")], returnType := some .int }, accessFlags := 9, code := some k11c2 }
def k11c3 : Code := { maxStack := 4, maxLocals := 4, code := jdk_41_method_13_code, exceptionTable := #[], attributes := #[] }
def k11m3 : Method := { name := "checkFromIndexSize", desc := "(IIILjava/util/function/BiFunction;)I", sig := { parameters := [.int, .int, .int, (.object "java/util/function/BiFunction")], returnType := some .int }, accessFlags := 9, code := some k11c3 }
/-- jdk/internal/util/Preconditions -/
def k11 : Class := { plain "jdk/internal/util/Preconditions" (some 0) with
  accessFlags := 33
  interfaces := #[]
  cf := some (fileOf pool11 24 #[.nestMembers #[55, 131, 125, 114]] #[{ accessFlags := 1, nameIndex := 5, descriptorIndex := 6, attributes := #[] }, { accessFlags := 9, nameIndex := 33, descriptorIndex := 178, attributes := #[] }, { accessFlags := 9, nameIndex := 47, descriptorIndex := 183, attributes := #[] }, { accessFlags := 9, nameIndex := 49, descriptorIndex := 183, attributes := #[] }] 33 2 #[] #[{ accessFlags := 25, nameIndex := 123, descriptorIndex := 124, attributes := #[] }, { accessFlags := 25, nameIndex := 130, descriptorIndex := 124, attributes := #[] }, { accessFlags := 25, nameIndex := 136, descriptorIndex := 124, attributes := #[] }])
  fields := #[{ name := "SIOOBE_FORMATTER", type := (.object "java/util/function/BiFunction"), accessFlags := 25, slot := 0, constantValue := 0 }, { name := "AIOOBE_FORMATTER", type := (.object "java/util/function/BiFunction"), accessFlags := 25, slot := 1, constantValue := 0 }, { name := "IOOBE_FORMATTER", type := (.object "java/util/function/BiFunction"), accessFlags := 25, slot := 2, constantValue := 0 }]
  methods := #[k11m0, k11m1, k11m2, k11m3]
  instanceTypes := #[]
  staticTypes := #[(.object "java/util/function/BiFunction"), (.object "java/util/function/BiFunction"), (.object "java/util/function/BiFunction")]
  resolved := Array.replicate 194 none
  statics := some 2 }

def pool12 : Array CpInfo := pool [(2, .class_ 4), (1, u "java/lang/Object"), (0, u "<init>"), (0, u "()V"), (7, .class_ 16), (1, u "java/util/Arrays"), (57, .class_ 76), (1, u "java/util/Arrays$NaturalOrder"), (36, .class_ 115), (1, u "java/util/Arrays$LegacyMergeSort"), (1, u "Z"), (21, u "copyOfRange"), (10, .methodref 151 152), (0, .class_ 153), (0, .nameAndType 154 155), (0, u "java/lang/System"), (0, u "arraycopy"), (0, u "(Ljava/lang/Object;ILjava/lang/Object;II)V"), (148, .methodref 305 306), (0, .class_ 307), (0, .nameAndType 308 309), (0, u "java/lang/Math"), (0, u "min"), (0, u "(II)I"), (29, .methodref 14 340), (0, .nameAndType 341 342), (0, u "copyOfRangeByte"), (0, u "([BII)[B"), (0, .methodref 14 344), (0, .nameAndType 345 346), (0, u "checkLength"), (0, u "(II)V"), (28, .class_ 376), (0, u "java/util/Arrays$ArrayList"), (68, u "$assertionsDisabled"), (269, u "MIN_ARRAY_SORT_GRAN"), (0, u "I"), (2, u "INSERTIONSORT_THRESHOLD"), (255, .class_ 976), (0, u "java/util/Arrays$ArrayItr")] 52

def k12m0 : Method := { name := "<init>", desc := "()V", sig := { parameters := [], returnType := none }, accessFlags := 2, code := none }
def k12c1 : Code := { maxStack := 4, maxLocals := 2, code := jdk_65_method_131_code, exceptionTable := #[], attributes := #[] }
def k12m1 : Method := { name := "checkLength", desc := "(II)V", sig := { parameters := [.int, .int], returnType := none }, accessFlags := 10, code := some k12c1 }
def k12c2 : Code := { maxStack := 3, maxLocals := 3, code := jdk_65_method_132_code, exceptionTable := #[], attributes := #[] }
def k12m2 : Method := { name := "copyOfRange", desc := "([BII)[B", sig := { parameters := [(.array .byte), .int, .int], returnType := some (.array .byte) }, accessFlags := 9, code := some k12c2 }
def k12c3 : Code := { maxStack := 6, maxLocals := 5, code := jdk_65_method_133_code, exceptionTable := #[], attributes := #[] }
def k12m3 : Method := { name := "copyOfRangeByte", desc := "([BII)[B", sig := { parameters := [(.array .byte), .int, .int], returnType := some (.array .byte) }, accessFlags := 10, code := some k12c3 }
/-- java/util/Arrays -/
def k12 : Class := { plain "java/util/Arrays" (some 0) with
  accessFlags := 49
  interfaces := #[]
  cf := some (fileOf pool12 14 #[.nestMembers #[975, 375, 113, 74]] #[{ accessFlags := 2, nameIndex := 5, descriptorIndex := 6, attributes := #[] }, { accessFlags := 10, nameIndex := 345, descriptorIndex := 346, attributes := #[] }, { accessFlags := 9, nameIndex := 139, descriptorIndex := 342, attributes := #[] }, { accessFlags := 10, nameIndex := 341, descriptorIndex := 342, attributes := #[] }] 49 2 #[] #[{ accessFlags := 26, nameIndex := 715, descriptorIndex := 716, attributes := #[] }, { accessFlags := 26, nameIndex := 719, descriptorIndex := 716, attributes := #[] }, { accessFlags := 4120, nameIndex := 445, descriptorIndex := 117, attributes := #[] }])
  fields := #[{ name := "MIN_ARRAY_SORT_GRAN", type := .int, accessFlags := 26, slot := 0, constantValue := 0 }, { name := "INSERTIONSORT_THRESHOLD", type := .int, accessFlags := 26, slot := 1, constantValue := 0 }, { name := "$assertionsDisabled", type := .boolean, accessFlags := 4120, slot := 2, constantValue := 0 }]
  methods := #[k12m0, k12m1, k12m2, k12m3]
  instanceTypes := #[]
  staticTypes := #[.int, .int, .boolean]
  resolved := Array.replicate 1029 none
  statics := none }

def pool13 : Array CpInfo := pool [(1, .class_ 2), (0, u "java/lang/Math"), (1, .class_ 6), (1, u "java/lang/Object"), (0, u "<init>"), (0, u "()V"), (89, .class_ 100), (1, u "java/lang/Math$RandomNumberGeneratorHolder"), (71, u "negativeZeroFloatBits"), (0, u "J"), (2, u "negativeZeroDoubleBits"), (24, u "min"), (43, u "$assertionsDisabled"), (0, u "Z"), (88, u "(II)I"), (2, u "twoToTheDoubleScaleDown"), (0, u "D"), (4, u "twoToTheDoubleScaleUp"), (9, u "E"), (3, u "PI"), (2, u "TAU"), (2, u "DEGREES_TO_RADIANS"), (0, u "RADIANS_TO_DEGREES")] 94

def k13m0 : Method := { name := "<init>", desc := "()V", sig := { parameters := [], returnType := none }, accessFlags := 2, code := none }
def k13c1 : Code := { maxStack := 2, maxLocals := 2, code := jdk_29_method_69_code, exceptionTable := #[], attributes := #[] }
def k13m1 : Method := { name := "min", desc := "(II)I", sig := { parameters := [.int, .int], returnType := some .int }, accessFlags := 9, code := some k13c1 }
/-- java/lang/Math -/
def k13 : Class := { plain "java/lang/Math" (some 0) with
  accessFlags := 49
  interfaces := #[]
  cf := some (fileOf pool13 1 #[.nestMembers #[98]] #[{ accessFlags := 2, nameIndex := 7, descriptorIndex := 8, attributes := #[] }, { accessFlags := 9, nameIndex := 201, descriptorIndex := 335, attributes := #[] }] 49 4 #[] #[{ accessFlags := 25, nameIndex := 354, descriptorIndex := 339, attributes := #[] }, { accessFlags := 25, nameIndex := 358, descriptorIndex := 339, attributes := #[] }, { accessFlags := 25, nameIndex := 361, descriptorIndex := 339, attributes := #[] }, { accessFlags := 26, nameIndex := 364, descriptorIndex := 339, attributes := #[] }, { accessFlags := 26, nameIndex := 365, descriptorIndex := 339, attributes := #[] }, { accessFlags := 26, nameIndex := 172, descriptorIndex := 173, attributes := #[] }, { accessFlags := 26, nameIndex := 176, descriptorIndex := 173, attributes := #[] }, { accessFlags := 8, nameIndex := 344, descriptorIndex := 339, attributes := #[] }, { accessFlags := 8, nameIndex := 338, descriptorIndex := 339, attributes := #[] }, { accessFlags := 4120, nameIndex := 245, descriptorIndex := 246, attributes := #[] }])
  fields := #[{ name := "E", type := .double, accessFlags := 25, slot := 0, constantValue := 0 }, { name := "PI", type := .double, accessFlags := 25, slot := 1, constantValue := 0 }, { name := "TAU", type := .double, accessFlags := 25, slot := 2, constantValue := 0 }, { name := "DEGREES_TO_RADIANS", type := .double, accessFlags := 26, slot := 3, constantValue := 0 }, { name := "RADIANS_TO_DEGREES", type := .double, accessFlags := 26, slot := 4, constantValue := 0 }, { name := "negativeZeroFloatBits", type := .long, accessFlags := 26, slot := 5, constantValue := 0 }, { name := "negativeZeroDoubleBits", type := .long, accessFlags := 26, slot := 6, constantValue := 0 }, { name := "twoToTheDoubleScaleUp", type := .double, accessFlags := 8, slot := 7, constantValue := 0 }, { name := "twoToTheDoubleScaleDown", type := .double, accessFlags := 8, slot := 8, constantValue := 0 }, { name := "$assertionsDisabled", type := .boolean, accessFlags := 4120, slot := 9, constantValue := 0 }]
  methods := #[k13m0, k13m1]
  instanceTypes := #[]
  staticTypes := #[.double, .double, .double, .double, .double, .long, .long, .double, .double, .boolean]
  resolved := Array.replicate 460 none
  statics := none }

def pool14 : Array CpInfo := pool [(2, .class_ 4), (1, u "java/lang/Object"), (0, u "<init>"), (0, u "()V"), (1, .class_ 10), (1, u "java/lang/System"), (0, u "allowSecurityManager"), (0, u "I"), (16, u "cons"), (0, u "Ljava/io/Console;"), (77, .class_ 110), (1, u "java/lang/System$CallersHolder"), (43, u "initialErrStream"), (0, u "Ljava/io/PrintStream;"), (19, u "security"), (0, u "Ljava/lang/SecurityManager;"), (31, .class_ 209), (0, u "java/lang/System$1"), (7, u "props"), (0, u "Ljava/util/Properties;"), (2, u "lineSeparator"), (0, u "Ljava/lang/String;"), (96, .class_ 321), (1, u "java/lang/System$LoggerFinder"), (5, .class_ 328), (0, u "java/lang/System$Logger"), (67, u "err"), (2, u "out"), (91, u "notSupportedJnuEncoding"), (15, u "in"), (17, u "initialIn"), (0, u "Ljava/io/InputStream;"), (35, u "bootLayer"), (0, u "Ljava/lang/ModuleLayer;"), (99, .class_ 664), (0, u "java/lang/System$2"), (9, u "NEVER"), (2, u "MAYBE"), (49, u "arraycopy"), (0, u "(Ljava/lang/Object;ILjava/lang/Object;II)V"), (72, .class_ 802), (0, u "java/lang/System$Logger$Level")] 31

def k14m0 : Method := { name := "<init>", desc := "()V", sig := { parameters := [], returnType := none }, accessFlags := 2, code := none }
def k14m1 : Method := { name := "arraycopy", desc := "(Ljava/lang/Object;ILjava/lang/Object;II)V", sig := { parameters := [(.object "java/lang/Object"), .int, (.object "java/lang/Object"), .int, .int], returnType := none }, accessFlags := 265, code := none }
/-- java/lang/System -/
def k14 : Class := { plain "java/lang/System" (some 0) with
  accessFlags := 49
  interfaces := #[]
  cf := some (fileOf pool14 8 #[.nestMembers #[319, 327, 801, 108, 663, 208]] #[{ accessFlags := 2, nameIndex := 5, descriptorIndex := 6, attributes := #[] }, { accessFlags := 265, nameIndex := 727, descriptorIndex := 728, attributes := #[] }] 49 2 #[] #[{ accessFlags := 25, nameIndex := 507, descriptorIndex := 526, attributes := #[] }, { accessFlags := 25, nameIndex := 399, descriptorIndex := 155, attributes := #[] }, { accessFlags := 25, nameIndex := 396, descriptorIndex := 155, attributes := #[] }, { accessFlags := 10, nameIndex := 525, descriptorIndex := 526, attributes := #[] }, { accessFlags := 26, nameIndex := 674, descriptorIndex := 12, attributes := #[] }, { accessFlags := 26, nameIndex := 677, descriptorIndex := 12, attributes := #[] }, { accessFlags := 10, nameIndex := 11, descriptorIndex := 12, attributes := #[] }, { accessFlags := 74, nameIndex := 175, descriptorIndex := 176, attributes := #[] }, { accessFlags := 10, nameIndex := 491, descriptorIndex := 222, attributes := #[] }, { accessFlags := 74, nameIndex := 29, descriptorIndex := 30, attributes := #[] }, { accessFlags := 74, nameIndex := 154, descriptorIndex := 155, attributes := #[] }, { accessFlags := 10, nameIndex := 217, descriptorIndex := 218, attributes := #[] }, { accessFlags := 10, nameIndex := 221, descriptorIndex := 222, attributes := #[] }, { accessFlags := 8, nameIndex := 562, descriptorIndex := 563, attributes := #[] }])
  fields := #[{ name := "in", type := (.object "java/io/InputStream"), accessFlags := 25, slot := 0, constantValue := 0 }, { name := "out", type := (.object "java/io/PrintStream"), accessFlags := 25, slot := 1, constantValue := 0 }, { name := "err", type := (.object "java/io/PrintStream"), accessFlags := 25, slot := 2, constantValue := 0 }, { name := "initialIn", type := (.object "java/io/InputStream"), accessFlags := 10, slot := 3, constantValue := 0 }, { name := "NEVER", type := .int, accessFlags := 26, slot := 4, constantValue := 0 }, { name := "MAYBE", type := .int, accessFlags := 26, slot := 5, constantValue := 0 }, { name := "allowSecurityManager", type := .int, accessFlags := 10, slot := 6, constantValue := 0 }, { name := "security", type := (.object "java/lang/SecurityManager"), accessFlags := 74, slot := 7, constantValue := 0 }, { name := "notSupportedJnuEncoding", type := (.object "java/lang/String"), accessFlags := 10, slot := 8, constantValue := 0 }, { name := "cons", type := (.object "java/io/Console"), accessFlags := 74, slot := 9, constantValue := 0 }, { name := "initialErrStream", type := (.object "java/io/PrintStream"), accessFlags := 74, slot := 10, constantValue := 0 }, { name := "props", type := (.object "java/util/Properties"), accessFlags := 10, slot := 11, constantValue := 0 }, { name := "lineSeparator", type := (.object "java/lang/String"), accessFlags := 10, slot := 12, constantValue := 0 }, { name := "bootLayer", type := (.object "java/lang/ModuleLayer"), accessFlags := 8, slot := 13, constantValue := 0 }]
  methods := #[k14m0, k14m1]
  instanceTypes := #[]
  staticTypes := #[(.object "java/io/InputStream"), (.object "java/io/PrintStream"), (.object "java/io/PrintStream"), (.object "java/io/InputStream"), .int, .int, .int, (.object "java/lang/SecurityManager"), (.object "java/lang/String"), (.object "java/io/Console"), (.object "java/io/PrintStream"), (.object "java/util/Properties"), (.object "java/lang/String"), (.object "java/lang/ModuleLayer")]
  resolved := Array.replicate 834 none
  statics := none }

def pool15 : Array CpInfo := pool [(1, .class_ 2), (0, u "java/lang/String"), (1, .class_ 6), (1, u "java/lang/Object"), (0, u "<init>"), (0, u "()V"), (0, .methodref 1 10), (0, .nameAndType 11 12), (0, u "checkIndex"), (0, u "(II)V"), (1, .class_ 16), (1, u "java/lang/StringLatin1"), (36, u "([BI)C"), (58, .methodref 1 113), (0, .nameAndType 7 114), (0, u "([BB)V"), (6, u "$assertionsDisabled"), (0, u "Z"), (8, .class_ 133), (1, u "java/util/Arrays"), (62, u "newString"), (0, u "([BII)Ljava/lang/String;"), (23, .class_ 223), (1, u "java/lang/StringLatin1$LinesSpliterator"), (8, .methodref 131 233), (0, .nameAndType 234 235), (0, u "copyOfRange"), (0, u "([BII)[B"), (16, u "charAt"), (28, u "equals"), (0, u "([B[B)Z"), (107, .class_ 391), (0, u "java/lang/StringLatin1$CharsSpliterator")] 3

def k15m0 : Method := { name := "<init>", desc := "()V", sig := { parameters := [], returnType := none }, accessFlags := 0, code := none }
def k15c1 : Code := { maxStack := 2, maxLocals := 2, code := jdk_43_method_2_code, exceptionTable := #[], attributes := #[] }
def k15m1 : Method := { name := "charAt", desc := "([BI)C", sig := { parameters := [(.array .byte), .int], returnType := some .char }, accessFlags := 9, code := some k15c1 }
def k15c2 : Code := { maxStack := 3, maxLocals := 3, code := jdk_43_method_13_code, exceptionTable := #[], attributes := #[] }
def k15m2 : Method := { name := "equals", desc := "([B[B)Z", sig := { parameters := [(.array .byte), (.array .byte)], returnType := some .boolean }, accessFlags := 9, code := some k15c2 }
def k15c3 : Code := { maxStack := 6, maxLocals := 3, code := jdk_43_method_47_code, exceptionTable := #[], attributes := #[] }
def k15m3 : Method := { name := "newString", desc := "([BII)Ljava/lang/String;", sig := { parameters := [(.array .byte), .int, .int], returnType := some (.object "java/lang/String") }, accessFlags := 9, code := some k15c3 }
/-- java/lang/StringLatin1 -/
def k15 : Class := { plain "java/lang/StringLatin1" (some 0) with
  accessFlags := 48
  interfaces := #[]
  cf := some (fileOf pool15 14 #[.nestMembers #[390, 221]] #[{ accessFlags := 0, nameIndex := 7, descriptorIndex := 8, attributes := #[] }, { accessFlags := 9, nameIndex := 252, descriptorIndex := 53, attributes := #[] }, { accessFlags := 9, nameIndex := 281, descriptorIndex := 282, attributes := #[] }, { accessFlags := 9, nameIndex := 196, descriptorIndex := 197, attributes := #[] }] 48 4 #[] #[{ accessFlags := 4120, nameIndex := 121, descriptorIndex := 122, attributes := #[] }])
  fields := #[{ name := "$assertionsDisabled", type := .boolean, accessFlags := 4120, slot := 0, constantValue := 0 }]
  methods := #[k15m0, k15m1, k15m2, k15m3]
  instanceTypes := #[]
  staticTypes := #[.boolean]
  resolved := Array.replicate 395 none
  statics := none }

def pool16 : Array CpInfo := pool [(9, u "<init>"), (6, .class_ 18), (1, u "java/lang/Object"), (0, u "()V"), (1, .class_ 23), (1, u "jdk/internal/util/ArraysSupport"), (0, u "LOG2_ARRAY_LONG_INDEX_SCALE"), (0, u "I"), (2, u "U"), (0, u "Ljdk/internal/misc/Unsafe;"), (8, u "BIG_ENDIAN"), (0, u "Z"), (8, u "LOG2_BYTE_BIT_SIZE"), (4, u "LOG2_ARRAY_INT_INDEX_SCALE"), (54, u "JLA"), (0, u "Ljdk/internal/access/JavaLangAccess;"), (11, u "LOG2_ARRAY_BOOLEAN_INDEX_SCALE"), (9, u "LOG2_ARRAY_BYTE_INDEX_SCALE"), (5, u "LOG2_ARRAY_CHAR_INDEX_SCALE"), (5, u "LOG2_ARRAY_SHORT_INDEX_SCALE"), (18, u "LOG2_ARRAY_FLOAT_INDEX_SCALE"), (24, u "LOG2_ARRAY_DOUBLE_INDEX_SCALE"), (89, u "T_BOOLEAN"), (2, u "T_CHAR"), (1, u "T_FLOAT"), (1, u "T_DOUBLE"), (1, u "T_BYTE"), (1, u "T_SHORT"), (1, u "T_INT"), (1, u "T_LONG"), (1, u "SOFT_MAX_ARRAY_LENGTH")] 83

def k16m0 : Method := { name := "<init>", desc := "()V", sig := { parameters := [], returnType := none }, accessFlags := 2, code := none }
/-- jdk/internal/util/ArraysSupport -/
def k16 : Class := { plain "jdk/internal/util/ArraysSupport" (some 0) with
  accessFlags := 33
  interfaces := #[]
  cf := some (fileOf pool16 21 #[] #[{ accessFlags := 2, nameIndex := 9, descriptorIndex := 19, attributes := #[] }] 33 16 #[] #[{ accessFlags := 24, nameIndex := 28, descriptorIndex := 29, attributes := #[] }, { accessFlags := 26, nameIndex := 38, descriptorIndex := 39, attributes := #[] }, { accessFlags := 25, nameIndex := 121, descriptorIndex := 25, attributes := #[] }, { accessFlags := 25, nameIndex := 131, descriptorIndex := 25, attributes := #[] }, { accessFlags := 25, nameIndex := 137, descriptorIndex := 25, attributes := #[] }, { accessFlags := 25, nameIndex := 143, descriptorIndex := 25, attributes := #[] }, { accessFlags := 25, nameIndex := 53, descriptorIndex := 25, attributes := #[] }, { accessFlags := 25, nameIndex := 24, descriptorIndex := 25, attributes := #[] }, { accessFlags := 25, nameIndex := 162, descriptorIndex := 25, attributes := #[] }, { accessFlags := 25, nameIndex := 187, descriptorIndex := 25, attributes := #[] }, { accessFlags := 26, nameIndex := 48, descriptorIndex := 25, attributes := #[] }, { accessFlags := 25, nameIndex := 277, descriptorIndex := 25, attributes := #[] }, { accessFlags := 25, nameIndex := 280, descriptorIndex := 25, attributes := #[] }, { accessFlags := 25, nameIndex := 282, descriptorIndex := 25, attributes := #[] }, { accessFlags := 25, nameIndex := 284, descriptorIndex := 25, attributes := #[] }, { accessFlags := 25, nameIndex := 286, descriptorIndex := 25, attributes := #[] }, { accessFlags := 25, nameIndex := 288, descriptorIndex := 25, attributes := #[] }, { accessFlags := 25, nameIndex := 290, descriptorIndex := 25, attributes := #[] }, { accessFlags := 25, nameIndex := 292, descriptorIndex := 25, attributes := #[] }, { accessFlags := 26, nameIndex := 108, descriptorIndex := 109, attributes := #[] }, { accessFlags := 25, nameIndex := 294, descriptorIndex := 25, attributes := #[] }])
  fields := #[{ name := "U", type := (.object "jdk/internal/misc/Unsafe"), accessFlags := 24, slot := 0, constantValue := 0 }, { name := "BIG_ENDIAN", type := .boolean, accessFlags := 26, slot := 1, constantValue := 0 }, { name := "LOG2_ARRAY_BOOLEAN_INDEX_SCALE", type := .int, accessFlags := 25, slot := 2, constantValue := 0 }, { name := "LOG2_ARRAY_BYTE_INDEX_SCALE", type := .int, accessFlags := 25, slot := 3, constantValue := 0 }, { name := "LOG2_ARRAY_CHAR_INDEX_SCALE", type := .int, accessFlags := 25, slot := 4, constantValue := 0 }, { name := "LOG2_ARRAY_SHORT_INDEX_SCALE", type := .int, accessFlags := 25, slot := 5, constantValue := 0 }, { name := "LOG2_ARRAY_INT_INDEX_SCALE", type := .int, accessFlags := 25, slot := 6, constantValue := 0 }, { name := "LOG2_ARRAY_LONG_INDEX_SCALE", type := .int, accessFlags := 25, slot := 7, constantValue := 0 }, { name := "LOG2_ARRAY_FLOAT_INDEX_SCALE", type := .int, accessFlags := 25, slot := 8, constantValue := 0 }, { name := "LOG2_ARRAY_DOUBLE_INDEX_SCALE", type := .int, accessFlags := 25, slot := 9, constantValue := 0 }, { name := "LOG2_BYTE_BIT_SIZE", type := .int, accessFlags := 26, slot := 10, constantValue := 0 }, { name := "T_BOOLEAN", type := .int, accessFlags := 25, slot := 11, constantValue := 0 }, { name := "T_CHAR", type := .int, accessFlags := 25, slot := 12, constantValue := 0 }, { name := "T_FLOAT", type := .int, accessFlags := 25, slot := 13, constantValue := 0 }, { name := "T_DOUBLE", type := .int, accessFlags := 25, slot := 14, constantValue := 0 }, { name := "T_BYTE", type := .int, accessFlags := 25, slot := 15, constantValue := 0 }, { name := "T_SHORT", type := .int, accessFlags := 25, slot := 16, constantValue := 0 }, { name := "T_INT", type := .int, accessFlags := 25, slot := 17, constantValue := 0 }, { name := "T_LONG", type := .int, accessFlags := 25, slot := 18, constantValue := 0 }, { name := "JLA", type := (.object "jdk/internal/access/JavaLangAccess"), accessFlags := 26, slot := 19, constantValue := 0 }, { name := "SOFT_MAX_ARRAY_LENGTH", type := .int, accessFlags := 25, slot := 20, constantValue := 0 }]
  methods := #[k16m0]
  instanceTypes := #[]
  staticTypes := #[(.object "jdk/internal/misc/Unsafe"), .boolean, .int, .int, .int, .int, .int, .int, .int, .int, .int, .int, .int, .int, .int, .int, .int, .int, .int, (.object "jdk/internal/access/JavaLangAccess"), .int]
  resolved := Array.replicate 378 none
  statics := none }

def pool17 : Array CpInfo := pool [(1, u "java/lang/Cloneable"), (0, .class_ 1), (0, u "java/lang/Object"), (0, .class_ 3)] 3

/-- java/lang/Cloneable -/
def k17 : Class := { plain "java/lang/Cloneable" (some 0) with
  accessFlags := 1537
  interfaces := #[]
  cf := some (fileOf pool17 2 #[] #[] 1537 4 #[] #[])
  fields := #[]
  methods := #[]
  instanceTypes := #[]
  staticTypes := #[]
  resolved := Array.replicate 8 none
  statics := none }

/-- the primitive byte -/
def k18 : Class := { plain "byte" none with kind := .primitive 'B', accessFlags := 0x411 }
/-- [B -/
def k19 : Class := { plain "[B" (some 0) with kind := .array 18 .byte, interfaces := #[17, 2], accessFlags := 1041 }

/-- the primitive char -/
def k20 : Class := { plain "char" none with kind := .primitive 'C', accessFlags := 0x411 }
/-- [C -/
def k21 : Class := { plain "[C" (some 0) with kind := .array 20 .char, interfaces := #[17, 2], accessFlags := 1041 }

def heap : Heap := #[{ cls := 7, slots := #[.long 0, .int 1, .null, .int 0, .null, .int 0, .int 0], vm := .statics 7 },
  { cls := 8, slots := #[.int 0, .int 8, .int 0, .int 1], vm := .statics 8 },
  { cls := 11, slots := #[.null, .null, .null], vm := .statics 11 }]
def classes : Array Class := #[k0, k1, k2, k3, k4, k5, k6, k7, k8, k9, k10, k11, k12, k13, k14, k15, k16, k17, k18, k19, k20, k21]
def interned : List (Array UInt16 × Addr) := []
def slotsUsed : Nat := 14
def theMethod : MethodId := ⟨1, 6⟩
def args0 : Array Value := #[.long 5, .long 6, .long 7, .int 3]
def aboutOver (below : List Frame) : State where
  vm := { classes := classes, interned := interned.toArray }
  heap := heap
  slotsUsed := slotsUsed
  threads := #[{ frames := .invoking theMethod args0 :: below }]
def below0 : List Frame := [.native { method := ⟨0, 0⟩, args := #[] }]
def about1 : State := aboutOver below0
def p0 : Program := .bare "" "" ""
def e0 : Env := launch0.env 0 0 0
theorem w_frames : about1.frames = Frame.invoking theMethod args0 :: below0 := rfl
set_option maxRecDepth 65536 in
theorem w_args : argsFit about1.vm theMethod args0 = true := by decide +kernel
set_option maxRecDepth 65536 in
theorem w_heap : heapFits about1 = true := by decide +kernel
set_option maxRecDepth 65536 in
theorem w_runnable : about1.curStatus? = some .runnable := by decide +kernel
set_option maxRecDepth 65536 in
theorem w_alone : about1.alone = true := by decide +kernel
set_option maxRecDepth 65536 in
theorem w_named : about1.methodNamed? x = some theMethod := by decide +kernel
set_option maxRecDepth 65536 in
theorem w_hears : about1.hears theMethod below0 = true := by decide +kernel
set_option maxRecDepth 65536 in
theorem w_ripe : about1.ripe theMethod args0 below0 = true := by decide +kernel
theorem w_running : about1.status = .running := rfl
set_option maxRecDepth 65536 in
theorem w_room : about1.hasRoom e0.platform room_1 = true :=
  launch0.hasRoom_least _ room_1 (by decide +kernel) (by decide +kernel) (by decide +kernel) (by decide +kernel) (by decide +kernel) (by decide +kernel)
theorem allAtoms_all (ts : List Jvm.Cond) (a : Array Jvm.Value) (st : Jvm.State) : (allAtoms ts).before a st = ts.all (fun c => c.before a st) := by
  induction ts with
  | nil => rfl
  | cons c t ih =>
    show (Jvm.Cond.and c (allAtoms t)).before a st = _
    rw [Jvm.Cond.before_and, ih, List.all_cons]
def words1 : List Jvm.Cond := Jvm.Cond.code x code maxLocals ret :: tables_1
/-- a 'code' word, met by the world's own term for the bytes: nothing is compared byte by byte -/
theorem code_word {y : MethodName} {bytes : ByteArray} {mx : Nat} {rt : Option FieldType} {a : Array Value} {s : State} {m : MethodId} {meth : Method} {c : Code} (h1 : s.methodNamed? y = some m) (h2 : s.vm.method? m = some meth) (h3 : meth.code = some c) (h4 : c.code = bytes)
    (h5 : (c.maxLocals == mx && c.exceptionTable.isEmpty && decide (c.maxStack ≤ mostOperands) && decide (meth.sig.returnType = rt) && !meth.locks && decide (parseMethodDescriptor y.desc = some meth.sig)) = true) : (Jvm.Cond.code y bytes mx rt).before a s = true := by
  simp only [Bool.and_eq_true, beq_iff_eq, Bool.not_eq_true', decide_eq_true_eq] at h5
  obtain ⟨⟨⟨⟨⟨g1, g2⟩, g3⟩, g4⟩, g5⟩, g6⟩ := h5
  simp [Cond.before, Cond.holds, Cond.value, h1, h2, h3, h4, g1, g2, g3, g4, g5, g6]
def isCode : Jvm.Cond → Bool
  | .code _ _ _ _ => true
  | _ => false
theorem all_split {L : List Jvm.Cond} {P : Jvm.Cond → Bool} (h1 : L.all (fun c => isCode c || P c) = true) (h2 : ∀ c ∈ L.filter isCode, P c = true) : L.all P = true := by
  refine List.all_eq_true.mpr fun c hc => ?_
  have h := List.all_eq_true.mp h1 c hc
  rcases Bool.eq_false_or_eq_true (isCode c) with hi | hi
  · exact h2 c (List.mem_filter.mpr ⟨hc, hi⟩)
  · simpa [hi] using h
set_option maxRecDepth 65536 in
theorem w_c0 : (Jvm.Cond.code x code maxLocals ret).before args0 about1 = true := code_word (m := ⟨1, 6⟩) (meth := k1m6) (c := k1c6) (by decide +kernel) rfl rfl rfl (by decide +kernel)
set_option maxRecDepth 65536 in
theorem w_c1 : (Jvm.Cond.code ({ cls := "com/example/tender/tender/mailbox/MailAbstractOfPinLaw", name := "mk", desc := "(J)C" } : Jvm.MethodName) method_2_code (4 : Nat) (Option.some Jvm.ClassFile.FieldType.char)).before args0 about1 = true := code_word (m := ⟨1, 1⟩) (meth := k1m1) (c := k1c1) (by decide +kernel) rfl rfl rfl (by decide +kernel)
set_option maxRecDepth 65536 in
theorem w_c2 : (Jvm.Cond.code ({ cls := "com/example/tender/tender/mailbox/MailAbstractOfPinLaw", name := "high", desc := "(C)Z" } : Jvm.MethodName) method_3_code (1 : Nat) (Option.some Jvm.ClassFile.FieldType.boolean)).before args0 about1 = true := code_word (m := ⟨1, 2⟩) (meth := k1m2) (c := k1c2) (by decide +kernel) rfl rfl rfl (by decide +kernel)
set_option maxRecDepth 65536 in
theorem w_c3 : (Jvm.Cond.code ({ cls := "com/example/tender/tender/mailbox/MailAbstractOfPinLaw", name := "step", desc := "([CI)I" } : Jvm.MethodName) method_5_code (2 : Nat) (Option.some Jvm.ClassFile.FieldType.int)).before args0 about1 = true := code_word (m := ⟨1, 4⟩) (meth := k1m4) (c := k1c4) (by decide +kernel) rfl rfl rfl (by decide +kernel)
set_option maxRecDepth 65536 in
theorem w_c4 : (Jvm.Cond.code ({ cls := "com/example/tender/tender/mailbox/MailAbstractOfPinLaw", name := "low", desc := "(C)Z" } : Jvm.MethodName) method_4_code (1 : Nat) (Option.some Jvm.ClassFile.FieldType.boolean)).before args0 about1 = true := code_word (m := ⟨1, 3⟩) (meth := k1m3) (c := k1c3) (by decide +kernel) rfl rfl rfl (by decide +kernel)
set_option maxRecDepth 65536 in
theorem w_c5 : (Jvm.Cond.code ({ cls := "com/example/tender/tender/mailbox/MailAbstractOfPinLaw", name := "copyKey", desc := "([C[C)V" } : Jvm.MethodName) method_6_code (2 : Nat) (Option.none : Option Jvm.ClassFile.FieldType)).before args0 about1 = true := code_word (m := ⟨1, 5⟩) (meth := k1m5) (c := k1c5) (by decide +kernel) rfl rfl rfl (by decide +kernel)
set_option maxRecDepth 65536 in
theorem w_c6 : (Jvm.Cond.code ({ cls := "java/lang/String", name := "<init>", desc := "([C)V" } : Jvm.MethodName) jdk_42_method_3_code (2 : Nat) (Option.none : Option Jvm.ClassFile.FieldType)).before args0 about1 = true := code_word (m := ⟨7, 1⟩) (meth := k7m1) (c := k7c1) (by decide +kernel) rfl rfl rfl (by decide +kernel)
set_option maxRecDepth 65536 in
theorem w_c7 : (Jvm.Cond.code ({ cls := "java/lang/String", name := "<init>", desc := "([CIILjava/lang/Void;)V" } : Jvm.MethodName) jdk_42_method_149_code (6 : Nat) (Option.none : Option Jvm.ClassFile.FieldType)).before args0 about1 = true := code_word (m := ⟨7, 7⟩) (meth := k7m7) (c := k7c7) (by decide +kernel) rfl rfl rfl (by decide +kernel)
set_option maxRecDepth 65536 in
theorem w_c8 : (Jvm.Cond.code ({ cls := "java/lang/Object", name := "<init>", desc := "()V" } : Jvm.MethodName) object_method_1_code (1 : Nat) (Option.none : Option Jvm.ClassFile.FieldType)).before args0 about1 = true := code_word (m := ⟨0, 0⟩) (meth := k0m0) (c := k0c0) (by decide +kernel) rfl rfl rfl (by decide +kernel)
set_option maxRecDepth 65536 in
theorem w_c9 : (Jvm.Cond.code ({ cls := "java/lang/StringUTF16", name := "compress", desc := "([CII)[B" } : Jvm.MethodName) jdk_52_method_16_code (6 : Nat) (Option.some (Jvm.ClassFile.FieldType.array Jvm.ClassFile.FieldType.byte))).before args0 about1 = true := code_word (m := ⟨8, 8⟩) (meth := k8m8) (c := k8c8) (by decide +kernel) rfl rfl rfl (by decide +kernel)
set_option maxRecDepth 65536 in
theorem w_c10 : (Jvm.Cond.code ({ cls := "java/lang/StringUTF16", name := "compress", desc := "([CI[BII)I" } : Jvm.MethodName) jdk_52_method_21_code (7 : Nat) (Option.some Jvm.ClassFile.FieldType.int)).before args0 about1 = true := code_word (m := ⟨8, 10⟩) (meth := k8m10) (c := k8c10) (by decide +kernel) rfl rfl rfl (by decide +kernel)
set_option maxRecDepth 65536 in
theorem w_c11 : (Jvm.Cond.code ({ cls := "java/lang/StringUTF16", name := "toBytes", desc := "([CII)[B" } : Jvm.MethodName) jdk_52_method_14_code (5 : Nat) (Option.some (Jvm.ClassFile.FieldType.array Jvm.ClassFile.FieldType.byte))).before args0 about1 = true := code_word (m := ⟨8, 6⟩) (meth := k8m6) (c := k8c6) (by decide +kernel) rfl rfl rfl (by decide +kernel)
set_option maxRecDepth 65536 in
theorem w_c12 : (Jvm.Cond.code ({ cls := "java/lang/StringUTF16", name := "newBytesFor", desc := "(I)[B" } : Jvm.MethodName) jdk_52_method_2_code (1 : Nat) (Option.some (Jvm.ClassFile.FieldType.array Jvm.ClassFile.FieldType.byte))).before args0 about1 = true := code_word (m := ⟨8, 1⟩) (meth := k8m1) (c := k8c1) (by decide +kernel) rfl rfl rfl (by decide +kernel)
set_option maxRecDepth 65536 in
theorem w_c13 : (Jvm.Cond.code ({ cls := "java/lang/StringUTF16", name := "newBytesLength", desc := "(I)I" } : Jvm.MethodName) jdk_52_method_3_code (1 : Nat) (Option.some Jvm.ClassFile.FieldType.int)).before args0 about1 = true := code_word (m := ⟨8, 2⟩) (meth := k8m2) (c := k8c2) (by decide +kernel) rfl rfl rfl (by decide +kernel)
set_option maxRecDepth 65536 in
theorem w_c14 : (Jvm.Cond.code ({ cls := "java/lang/StringUTF16", name := "putChar", desc := "([BII)V" } : Jvm.MethodName) jdk_52_method_4_code (3 : Nat) (Option.none : Option Jvm.ClassFile.FieldType)).before args0 about1 = true := code_word (m := ⟨8, 3⟩) (meth := k8m3) (c := k8c3) (by decide +kernel) rfl rfl rfl (by decide +kernel)
set_option maxRecDepth 65536 in
theorem w_c15 : (Jvm.Cond.code ({ cls := "java/lang/StringUTF16", name := "getChar", desc := "([BI)C" } : Jvm.MethodName) jdk_52_method_5_code (2 : Nat) (Option.some Jvm.ClassFile.FieldType.char)).before args0 about1 = true := code_word (m := ⟨8, 4⟩) (meth := k8m4) (c := k8c4) (by decide +kernel) rfl rfl rfl (by decide +kernel)
set_option maxRecDepth 65536 in
theorem w_c16 : (Jvm.Cond.code ({ cls := "java/lang/StringUTF16", name := "coderFromArrayLen", desc := "([BI)B" } : Jvm.MethodName) jdk_52_method_15_code (2 : Nat) (Option.some Jvm.ClassFile.FieldType.byte)).before args0 about1 = true := code_word (m := ⟨8, 7⟩) (meth := k8m7) (c := k8c7) (by decide +kernel) rfl rfl rfl (by decide +kernel)
set_option maxRecDepth 65536 in
theorem w_c17 : (Jvm.Cond.code ({ cls := "com/example/tender/tender/mailbox/MailAbstract", name := "of", desc := "(Ljava/lang/String;)Ljava/lang/String;" } : Jvm.MethodName) prog_7_method_2_code (3 : Nat) (Option.some (Jvm.ClassFile.FieldType.object "java/lang/String"))).before args0 about1 = true := code_word (m := ⟨9, 1⟩) (meth := k9m1) (c := k9c1) (by decide +kernel) rfl rfl rfl (by decide +kernel)
set_option maxRecDepth 65536 in
theorem w_c18 : (Jvm.Cond.code ({ cls := "java/lang/String", name := "length", desc := "()I" } : Jvm.MethodName) jdk_42_method_54_code (1 : Nat) (Option.some Jvm.ClassFile.FieldType.int)).before args0 about1 = true := code_word (m := ⟨7, 2⟩) (meth := k7m2) (c := k7c2) (by decide +kernel) rfl rfl rfl (by decide +kernel)
set_option maxRecDepth 65536 in
theorem w_c19 : (Jvm.Cond.code ({ cls := "java/lang/String", name := "coder", desc := "()B" } : Jvm.MethodName) jdk_42_method_152_code (1 : Nat) (Option.some Jvm.ClassFile.FieldType.byte)).before args0 about1 = true := code_word (m := ⟨7, 9⟩) (meth := k7m9) (c := k7c9) (by decide +kernel) rfl rfl rfl (by decide +kernel)
set_option maxRecDepth 65536 in
theorem w_c20 : (Jvm.Cond.code ({ cls := "java/lang/String", name := "offsetByCodePoints", desc := "(II)I" } : Jvm.MethodName) jdk_42_method_60_code (3 : Nat) (Option.some Jvm.ClassFile.FieldType.int)).before args0 about1 = true := code_word (m := ⟨7, 4⟩) (meth := k7m4) (c := k7c4) (by decide +kernel) rfl rfl rfl (by decide +kernel)
set_option maxRecDepth 65536 in
theorem w_c21 : (Jvm.Cond.code ({ cls := "java/lang/Character", name := "offsetByCodePoints", desc := "(Ljava/lang/CharSequence;II)I" } : Jvm.MethodName) jdk_89_method_36_code (6 : Nat) (Option.some Jvm.ClassFile.FieldType.int)).before args0 about1 = true := code_word (m := ⟨10, 2⟩) (meth := k10m2) (c := k10c2) (by decide +kernel) rfl rfl rfl (by decide +kernel)
set_option maxRecDepth 65536 in
theorem w_c22 : (Jvm.Cond.code ({ cls := "java/lang/String", name := "charAt", desc := "(I)C" } : Jvm.MethodName) jdk_42_method_56_code (2 : Nat) (Option.some Jvm.ClassFile.FieldType.char)).before args0 about1 = true := code_word (m := ⟨7, 3⟩) (meth := k7m3) (c := k7c3) (by decide +kernel) rfl rfl rfl (by decide +kernel)
set_option maxRecDepth 65536 in
theorem w_c23 : (Jvm.Cond.code ({ cls := "java/lang/String", name := "isLatin1", desc := "()Z" } : Jvm.MethodName) jdk_42_method_154_code (1 : Nat) (Option.some Jvm.ClassFile.FieldType.boolean)).before args0 about1 = true := code_word (m := ⟨7, 10⟩) (meth := k7m10) (c := k7c10) (by decide +kernel) rfl rfl rfl (by decide +kernel)
set_option maxRecDepth 65536 in
theorem w_c24 : (Jvm.Cond.code ({ cls := "java/lang/StringUTF16", name := "charAt", desc := "([BI)C" } : Jvm.MethodName) jdk_52_method_83_code (2 : Nat) (Option.some Jvm.ClassFile.FieldType.char)).before args0 about1 = true := code_word (m := ⟨8, 13⟩) (meth := k8m13) (c := k8c13) (by decide +kernel) rfl rfl rfl (by decide +kernel)
set_option maxRecDepth 65536 in
theorem w_c25 : (Jvm.Cond.code ({ cls := "java/lang/StringUTF16", name := "checkIndex", desc := "(I[B)V" } : Jvm.MethodName) jdk_52_method_91_code (2 : Nat) (Option.none : Option Jvm.ClassFile.FieldType)).before args0 about1 = true := code_word (m := ⟨8, 14⟩) (meth := k8m14) (c := k8c14) (by decide +kernel) rfl rfl rfl (by decide +kernel)
set_option maxRecDepth 65536 in
theorem w_c26 : (Jvm.Cond.code ({ cls := "java/lang/StringUTF16", name := "length", desc := "([B)I" } : Jvm.MethodName) jdk_52_method_6_code (1 : Nat) (Option.some Jvm.ClassFile.FieldType.int)).before args0 about1 = true := code_word (m := ⟨8, 5⟩) (meth := k8m5) (c := k8c5) (by decide +kernel) rfl rfl rfl (by decide +kernel)
set_option maxRecDepth 65536 in
theorem w_c27 : (Jvm.Cond.code ({ cls := "java/lang/String", name := "checkIndex", desc := "(II)V" } : Jvm.MethodName) jdk_42_method_155_code (2 : Nat) (Option.none : Option Jvm.ClassFile.FieldType)).before args0 about1 = true := code_word (m := ⟨7, 11⟩) (meth := k7m11) (c := k7c11) (by decide +kernel) rfl rfl rfl (by decide +kernel)
set_option maxRecDepth 65536 in
theorem w_c28 : (Jvm.Cond.code ({ cls := "jdk/internal/util/Preconditions", name := "checkIndex", desc := "(IILjava/util/function/BiFunction;)I" } : Jvm.MethodName) jdk_41_method_11_code (3 : Nat) (Option.some Jvm.ClassFile.FieldType.int)).before args0 about1 = true := code_word (m := ⟨11, 1⟩) (meth := k11m1) (c := k11c1) (by decide +kernel) rfl rfl rfl (by decide +kernel)
set_option maxRecDepth 65536 in
theorem w_c29 : (Jvm.Cond.code ({ cls := "java/lang/Character", name := "isHighSurrogate", desc := "(C)Z" } : Jvm.MethodName) jdk_89_method_14_code (1 : Nat) (Option.some Jvm.ClassFile.FieldType.boolean)).before args0 about1 = true := code_word (m := ⟨10, 0⟩) (meth := k10m0) (c := k10c0) (by decide +kernel) rfl rfl rfl (by decide +kernel)
set_option maxRecDepth 65536 in
theorem w_c30 : (Jvm.Cond.code ({ cls := "java/lang/Character", name := "isLowSurrogate", desc := "(C)Z" } : Jvm.MethodName) jdk_89_method_15_code (1 : Nat) (Option.some Jvm.ClassFile.FieldType.boolean)).before args0 about1 = true := code_word (m := ⟨10, 1⟩) (meth := k10m1) (c := k10c1) (by decide +kernel) rfl rfl rfl (by decide +kernel)
set_option maxRecDepth 65536 in
theorem w_c31 : (Jvm.Cond.code ({ cls := "java/lang/String", name := "substring", desc := "(II)Ljava/lang/String;" } : Jvm.MethodName) jdk_42_method_92_code (5 : Nat) (Option.some (Jvm.ClassFile.FieldType.object "java/lang/String"))).before args0 about1 = true := code_word (m := ⟨7, 6⟩) (meth := k7m6) (c := k7c6) (by decide +kernel) rfl rfl rfl (by decide +kernel)
set_option maxRecDepth 65536 in
theorem w_c32 : (Jvm.Cond.code ({ cls := "java/lang/String", name := "checkBoundsBeginEnd", desc := "(III)V" } : Jvm.MethodName) jdk_42_method_158_code (3 : Nat) (Option.none : Option Jvm.ClassFile.FieldType)).before args0 about1 = true := code_word (m := ⟨7, 13⟩) (meth := k7m13) (c := k7c13) (by decide +kernel) rfl rfl rfl (by decide +kernel)
set_option maxRecDepth 65536 in
theorem w_c33 : (Jvm.Cond.code ({ cls := "jdk/internal/util/Preconditions", name := "checkFromToIndex", desc := "(IIILjava/util/function/BiFunction;)I" } : Jvm.MethodName) jdk_41_method_12_code (4 : Nat) (Option.some Jvm.ClassFile.FieldType.int)).before args0 about1 = true := code_word (m := ⟨11, 2⟩) (meth := k11m2) (c := k11c2) (by decide +kernel) rfl rfl rfl (by decide +kernel)
set_option maxRecDepth 65536 in
theorem w_c34 : (Jvm.Cond.code ({ cls := "java/lang/StringUTF16", name := "newString", desc := "([BII)Ljava/lang/String;" } : Jvm.MethodName) jdk_52_method_69_code (5 : Nat) (Option.some (Jvm.ClassFile.FieldType.object "java/lang/String"))).before args0 about1 = true := code_word (m := ⟨8, 12⟩) (meth := k8m12) (c := k8c12) (by decide +kernel) rfl rfl rfl (by decide +kernel)
set_option maxRecDepth 65536 in
theorem w_c35 : (Jvm.Cond.code ({ cls := "java/lang/StringUTF16", name := "compress", desc := "([BII)[B" } : Jvm.MethodName) jdk_52_method_17_code (6 : Nat) (Option.some (Jvm.ClassFile.FieldType.array Jvm.ClassFile.FieldType.byte))).before args0 about1 = true := code_word (m := ⟨8, 9⟩) (meth := k8m9) (c := k8c9) (by decide +kernel) rfl rfl rfl (by decide +kernel)
set_option maxRecDepth 65536 in
theorem w_c36 : (Jvm.Cond.code ({ cls := "java/lang/StringUTF16", name := "compress", desc := "([BI[BII)I" } : Jvm.MethodName) jdk_52_method_22_code (7 : Nat) (Option.some Jvm.ClassFile.FieldType.int)).before args0 about1 = true := code_word (m := ⟨8, 11⟩) (meth := k8m11) (c := k8c11) (by decide +kernel) rfl rfl rfl (by decide +kernel)
set_option maxRecDepth 65536 in
theorem w_c37 : (Jvm.Cond.code ({ cls := "java/lang/StringUTF16", name := "checkBoundsOffCount", desc := "(II[B)V" } : Jvm.MethodName) jdk_52_method_94_code (3 : Nat) (Option.none : Option Jvm.ClassFile.FieldType)).before args0 about1 = true := code_word (m := ⟨8, 15⟩) (meth := k8m15) (c := k8c15) (by decide +kernel) rfl rfl rfl (by decide +kernel)
set_option maxRecDepth 65536 in
theorem w_c38 : (Jvm.Cond.code ({ cls := "java/lang/String", name := "checkBoundsOffCount", desc := "(III)I" } : Jvm.MethodName) jdk_42_method_157_code (3 : Nat) (Option.some Jvm.ClassFile.FieldType.int)).before args0 about1 = true := code_word (m := ⟨7, 12⟩) (meth := k7m12) (c := k7c12) (by decide +kernel) rfl rfl rfl (by decide +kernel)
set_option maxRecDepth 65536 in
theorem w_c39 : (Jvm.Cond.code ({ cls := "jdk/internal/util/Preconditions", name := "checkFromIndexSize", desc := "(IIILjava/util/function/BiFunction;)I" } : Jvm.MethodName) jdk_41_method_13_code (4 : Nat) (Option.some Jvm.ClassFile.FieldType.int)).before args0 about1 = true := code_word (m := ⟨11, 3⟩) (meth := k11m3) (c := k11c3) (by decide +kernel) rfl rfl rfl (by decide +kernel)
set_option maxRecDepth 65536 in
theorem w_c40 : (Jvm.Cond.code ({ cls := "java/util/Arrays", name := "copyOfRange", desc := "([BII)[B" } : Jvm.MethodName) jdk_65_method_132_code (3 : Nat) (Option.some (Jvm.ClassFile.FieldType.array Jvm.ClassFile.FieldType.byte))).before args0 about1 = true := code_word (m := ⟨12, 2⟩) (meth := k12m2) (c := k12c2) (by decide +kernel) rfl rfl rfl (by decide +kernel)
set_option maxRecDepth 65536 in
theorem w_c41 : (Jvm.Cond.code ({ cls := "java/util/Arrays", name := "copyOfRangeByte", desc := "([BII)[B" } : Jvm.MethodName) jdk_65_method_133_code (5 : Nat) (Option.some (Jvm.ClassFile.FieldType.array Jvm.ClassFile.FieldType.byte))).before args0 about1 = true := code_word (m := ⟨12, 3⟩) (meth := k12m3) (c := k12c3) (by decide +kernel) rfl rfl rfl (by decide +kernel)
set_option maxRecDepth 65536 in
theorem w_c42 : (Jvm.Cond.code ({ cls := "java/util/Arrays", name := "checkLength", desc := "(II)V" } : Jvm.MethodName) jdk_65_method_131_code (2 : Nat) (Option.none : Option Jvm.ClassFile.FieldType)).before args0 about1 = true := code_word (m := ⟨12, 1⟩) (meth := k12m1) (c := k12c1) (by decide +kernel) rfl rfl rfl (by decide +kernel)
set_option maxRecDepth 65536 in
theorem w_c43 : (Jvm.Cond.code ({ cls := "java/lang/Math", name := "min", desc := "(II)I" } : Jvm.MethodName) jdk_29_method_69_code (2 : Nat) (Option.some Jvm.ClassFile.FieldType.int)).before args0 about1 = true := code_word (m := ⟨13, 1⟩) (meth := k13m1) (c := k13c1) (by decide +kernel) rfl rfl rfl (by decide +kernel)
set_option maxRecDepth 65536 in
theorem w_c44 : (Jvm.Cond.code ({ cls := "java/lang/String", name := "<init>", desc := "([BB)V" } : Jvm.MethodName) jdk_42_method_151_code (3 : Nat) (Option.none : Option Jvm.ClassFile.FieldType)).before args0 about1 = true := code_word (m := ⟨7, 8⟩) (meth := k7m8) (c := k7c8) (by decide +kernel) rfl rfl rfl (by decide +kernel)
set_option maxRecDepth 65536 in
theorem w_c45 : (Jvm.Cond.code ({ cls := "java/lang/String", name := "equals", desc := "(Ljava/lang/Object;)Z" } : Jvm.MethodName) jdk_42_method_66_code (3 : Nat) (Option.some Jvm.ClassFile.FieldType.boolean)).before args0 about1 = true := code_word (m := ⟨7, 5⟩) (meth := k7m5) (c := k7c5) (by decide +kernel) rfl rfl rfl (by decide +kernel)
set_option maxRecDepth 65536 in
theorem w_c46 : (Jvm.Cond.code ({ cls := "java/lang/StringLatin1", name := "equals", desc := "([B[B)Z" } : Jvm.MethodName) jdk_43_method_13_code (3 : Nat) (Option.some Jvm.ClassFile.FieldType.boolean)).before args0 about1 = true := code_word (m := ⟨15, 2⟩) (meth := k15m2) (c := k15c2) (by decide +kernel) rfl rfl rfl (by decide +kernel)
set_option maxRecDepth 65536 in
theorem w_c47 : (Jvm.Cond.code ({ cls := "java/lang/StringLatin1", name := "charAt", desc := "([BI)C" } : Jvm.MethodName) jdk_43_method_2_code (2 : Nat) (Option.some Jvm.ClassFile.FieldType.char)).before args0 about1 = true := code_word (m := ⟨15, 1⟩) (meth := k15m1) (c := k15c1) (by decide +kernel) rfl rfl rfl (by decide +kernel)
set_option maxRecDepth 65536 in
theorem w_c48 : (Jvm.Cond.code ({ cls := "java/lang/StringLatin1", name := "newString", desc := "([BII)Ljava/lang/String;" } : Jvm.MethodName) jdk_43_method_47_code (3 : Nat) (Option.some (Jvm.ClassFile.FieldType.object "java/lang/String"))).before args0 about1 = true := code_word (m := ⟨15, 3⟩) (meth := k15m3) (c := k15c3) (by decide +kernel) rfl rfl rfl (by decide +kernel)
def codes1 : List Jvm.Cond := [Jvm.Cond.code x code maxLocals ret, Jvm.Cond.code ({ cls := "com/example/tender/tender/mailbox/MailAbstractOfPinLaw", name := "mk", desc := "(J)C" } : Jvm.MethodName) method_2_code (4 : Nat) (Option.some Jvm.ClassFile.FieldType.char), Jvm.Cond.code ({ cls := "com/example/tender/tender/mailbox/MailAbstractOfPinLaw", name := "high", desc := "(C)Z" } : Jvm.MethodName) method_3_code (1 : Nat) (Option.some Jvm.ClassFile.FieldType.boolean), Jvm.Cond.code ({ cls := "com/example/tender/tender/mailbox/MailAbstractOfPinLaw", name := "step", desc := "([CI)I" } : Jvm.MethodName) method_5_code (2 : Nat) (Option.some Jvm.ClassFile.FieldType.int), Jvm.Cond.code ({ cls := "com/example/tender/tender/mailbox/MailAbstractOfPinLaw", name := "low", desc := "(C)Z" } : Jvm.MethodName) method_4_code (1 : Nat) (Option.some Jvm.ClassFile.FieldType.boolean), Jvm.Cond.code ({ cls := "com/example/tender/tender/mailbox/MailAbstractOfPinLaw", name := "copyKey", desc := "([C[C)V" } : Jvm.MethodName) method_6_code (2 : Nat) (Option.none : Option Jvm.ClassFile.FieldType), Jvm.Cond.code ({ cls := "java/lang/String", name := "<init>", desc := "([C)V" } : Jvm.MethodName) jdk_42_method_3_code (2 : Nat) (Option.none : Option Jvm.ClassFile.FieldType), Jvm.Cond.code ({ cls := "java/lang/String", name := "<init>", desc := "([CIILjava/lang/Void;)V" } : Jvm.MethodName) jdk_42_method_149_code (6 : Nat) (Option.none : Option Jvm.ClassFile.FieldType), Jvm.Cond.code ({ cls := "java/lang/Object", name := "<init>", desc := "()V" } : Jvm.MethodName) object_method_1_code (1 : Nat) (Option.none : Option Jvm.ClassFile.FieldType), Jvm.Cond.code ({ cls := "java/lang/StringUTF16", name := "compress", desc := "([CII)[B" } : Jvm.MethodName) jdk_52_method_16_code (6 : Nat) (Option.some (Jvm.ClassFile.FieldType.array Jvm.ClassFile.FieldType.byte)), Jvm.Cond.code ({ cls := "java/lang/StringUTF16", name := "compress", desc := "([CI[BII)I" } : Jvm.MethodName) jdk_52_method_21_code (7 : Nat) (Option.some Jvm.ClassFile.FieldType.int), Jvm.Cond.code ({ cls := "java/lang/StringUTF16", name := "toBytes", desc := "([CII)[B" } : Jvm.MethodName) jdk_52_method_14_code (5 : Nat) (Option.some (Jvm.ClassFile.FieldType.array Jvm.ClassFile.FieldType.byte)), Jvm.Cond.code ({ cls := "java/lang/StringUTF16", name := "newBytesFor", desc := "(I)[B" } : Jvm.MethodName) jdk_52_method_2_code (1 : Nat) (Option.some (Jvm.ClassFile.FieldType.array Jvm.ClassFile.FieldType.byte)), Jvm.Cond.code ({ cls := "java/lang/StringUTF16", name := "newBytesLength", desc := "(I)I" } : Jvm.MethodName) jdk_52_method_3_code (1 : Nat) (Option.some Jvm.ClassFile.FieldType.int), Jvm.Cond.code ({ cls := "java/lang/StringUTF16", name := "putChar", desc := "([BII)V" } : Jvm.MethodName) jdk_52_method_4_code (3 : Nat) (Option.none : Option Jvm.ClassFile.FieldType), Jvm.Cond.code ({ cls := "java/lang/StringUTF16", name := "getChar", desc := "([BI)C" } : Jvm.MethodName) jdk_52_method_5_code (2 : Nat) (Option.some Jvm.ClassFile.FieldType.char), Jvm.Cond.code ({ cls := "java/lang/StringUTF16", name := "coderFromArrayLen", desc := "([BI)B" } : Jvm.MethodName) jdk_52_method_15_code (2 : Nat) (Option.some Jvm.ClassFile.FieldType.byte), Jvm.Cond.code ({ cls := "com/example/tender/tender/mailbox/MailAbstract", name := "of", desc := "(Ljava/lang/String;)Ljava/lang/String;" } : Jvm.MethodName) prog_7_method_2_code (3 : Nat) (Option.some (Jvm.ClassFile.FieldType.object "java/lang/String")), Jvm.Cond.code ({ cls := "java/lang/String", name := "length", desc := "()I" } : Jvm.MethodName) jdk_42_method_54_code (1 : Nat) (Option.some Jvm.ClassFile.FieldType.int), Jvm.Cond.code ({ cls := "java/lang/String", name := "coder", desc := "()B" } : Jvm.MethodName) jdk_42_method_152_code (1 : Nat) (Option.some Jvm.ClassFile.FieldType.byte), Jvm.Cond.code ({ cls := "java/lang/String", name := "offsetByCodePoints", desc := "(II)I" } : Jvm.MethodName) jdk_42_method_60_code (3 : Nat) (Option.some Jvm.ClassFile.FieldType.int), Jvm.Cond.code ({ cls := "java/lang/Character", name := "offsetByCodePoints", desc := "(Ljava/lang/CharSequence;II)I" } : Jvm.MethodName) jdk_89_method_36_code (6 : Nat) (Option.some Jvm.ClassFile.FieldType.int), Jvm.Cond.code ({ cls := "java/lang/String", name := "charAt", desc := "(I)C" } : Jvm.MethodName) jdk_42_method_56_code (2 : Nat) (Option.some Jvm.ClassFile.FieldType.char), Jvm.Cond.code ({ cls := "java/lang/String", name := "isLatin1", desc := "()Z" } : Jvm.MethodName) jdk_42_method_154_code (1 : Nat) (Option.some Jvm.ClassFile.FieldType.boolean), Jvm.Cond.code ({ cls := "java/lang/StringUTF16", name := "charAt", desc := "([BI)C" } : Jvm.MethodName) jdk_52_method_83_code (2 : Nat) (Option.some Jvm.ClassFile.FieldType.char), Jvm.Cond.code ({ cls := "java/lang/StringUTF16", name := "checkIndex", desc := "(I[B)V" } : Jvm.MethodName) jdk_52_method_91_code (2 : Nat) (Option.none : Option Jvm.ClassFile.FieldType), Jvm.Cond.code ({ cls := "java/lang/StringUTF16", name := "length", desc := "([B)I" } : Jvm.MethodName) jdk_52_method_6_code (1 : Nat) (Option.some Jvm.ClassFile.FieldType.int), Jvm.Cond.code ({ cls := "java/lang/String", name := "checkIndex", desc := "(II)V" } : Jvm.MethodName) jdk_42_method_155_code (2 : Nat) (Option.none : Option Jvm.ClassFile.FieldType), Jvm.Cond.code ({ cls := "jdk/internal/util/Preconditions", name := "checkIndex", desc := "(IILjava/util/function/BiFunction;)I" } : Jvm.MethodName) jdk_41_method_11_code (3 : Nat) (Option.some Jvm.ClassFile.FieldType.int), Jvm.Cond.code ({ cls := "java/lang/Character", name := "isHighSurrogate", desc := "(C)Z" } : Jvm.MethodName) jdk_89_method_14_code (1 : Nat) (Option.some Jvm.ClassFile.FieldType.boolean), Jvm.Cond.code ({ cls := "java/lang/Character", name := "isLowSurrogate", desc := "(C)Z" } : Jvm.MethodName) jdk_89_method_15_code (1 : Nat) (Option.some Jvm.ClassFile.FieldType.boolean), Jvm.Cond.code ({ cls := "java/lang/String", name := "substring", desc := "(II)Ljava/lang/String;" } : Jvm.MethodName) jdk_42_method_92_code (5 : Nat) (Option.some (Jvm.ClassFile.FieldType.object "java/lang/String")), Jvm.Cond.code ({ cls := "java/lang/String", name := "checkBoundsBeginEnd", desc := "(III)V" } : Jvm.MethodName) jdk_42_method_158_code (3 : Nat) (Option.none : Option Jvm.ClassFile.FieldType), Jvm.Cond.code ({ cls := "jdk/internal/util/Preconditions", name := "checkFromToIndex", desc := "(IIILjava/util/function/BiFunction;)I" } : Jvm.MethodName) jdk_41_method_12_code (4 : Nat) (Option.some Jvm.ClassFile.FieldType.int), Jvm.Cond.code ({ cls := "java/lang/StringUTF16", name := "newString", desc := "([BII)Ljava/lang/String;" } : Jvm.MethodName) jdk_52_method_69_code (5 : Nat) (Option.some (Jvm.ClassFile.FieldType.object "java/lang/String")), Jvm.Cond.code ({ cls := "java/lang/StringUTF16", name := "compress", desc := "([BII)[B" } : Jvm.MethodName) jdk_52_method_17_code (6 : Nat) (Option.some (Jvm.ClassFile.FieldType.array Jvm.ClassFile.FieldType.byte)), Jvm.Cond.code ({ cls := "java/lang/StringUTF16", name := "compress", desc := "([BI[BII)I" } : Jvm.MethodName) jdk_52_method_22_code (7 : Nat) (Option.some Jvm.ClassFile.FieldType.int), Jvm.Cond.code ({ cls := "java/lang/StringUTF16", name := "checkBoundsOffCount", desc := "(II[B)V" } : Jvm.MethodName) jdk_52_method_94_code (3 : Nat) (Option.none : Option Jvm.ClassFile.FieldType), Jvm.Cond.code ({ cls := "java/lang/String", name := "checkBoundsOffCount", desc := "(III)I" } : Jvm.MethodName) jdk_42_method_157_code (3 : Nat) (Option.some Jvm.ClassFile.FieldType.int), Jvm.Cond.code ({ cls := "jdk/internal/util/Preconditions", name := "checkFromIndexSize", desc := "(IIILjava/util/function/BiFunction;)I" } : Jvm.MethodName) jdk_41_method_13_code (4 : Nat) (Option.some Jvm.ClassFile.FieldType.int), Jvm.Cond.code ({ cls := "java/util/Arrays", name := "copyOfRange", desc := "([BII)[B" } : Jvm.MethodName) jdk_65_method_132_code (3 : Nat) (Option.some (Jvm.ClassFile.FieldType.array Jvm.ClassFile.FieldType.byte)), Jvm.Cond.code ({ cls := "java/util/Arrays", name := "copyOfRangeByte", desc := "([BII)[B" } : Jvm.MethodName) jdk_65_method_133_code (5 : Nat) (Option.some (Jvm.ClassFile.FieldType.array Jvm.ClassFile.FieldType.byte)), Jvm.Cond.code ({ cls := "java/util/Arrays", name := "checkLength", desc := "(II)V" } : Jvm.MethodName) jdk_65_method_131_code (2 : Nat) (Option.none : Option Jvm.ClassFile.FieldType), Jvm.Cond.code ({ cls := "java/lang/Math", name := "min", desc := "(II)I" } : Jvm.MethodName) jdk_29_method_69_code (2 : Nat) (Option.some Jvm.ClassFile.FieldType.int), Jvm.Cond.code ({ cls := "java/lang/String", name := "<init>", desc := "([BB)V" } : Jvm.MethodName) jdk_42_method_151_code (3 : Nat) (Option.none : Option Jvm.ClassFile.FieldType), Jvm.Cond.code ({ cls := "java/lang/String", name := "equals", desc := "(Ljava/lang/Object;)Z" } : Jvm.MethodName) jdk_42_method_66_code (3 : Nat) (Option.some Jvm.ClassFile.FieldType.boolean), Jvm.Cond.code ({ cls := "java/lang/StringLatin1", name := "equals", desc := "([B[B)Z" } : Jvm.MethodName) jdk_43_method_13_code (3 : Nat) (Option.some Jvm.ClassFile.FieldType.boolean), Jvm.Cond.code ({ cls := "java/lang/StringLatin1", name := "charAt", desc := "([BI)C" } : Jvm.MethodName) jdk_43_method_2_code (2 : Nat) (Option.some Jvm.ClassFile.FieldType.char), Jvm.Cond.code ({ cls := "java/lang/StringLatin1", name := "newString", desc := "([BII)Ljava/lang/String;" } : Jvm.MethodName) jdk_43_method_47_code (3 : Nat) (Option.some (Jvm.ClassFile.FieldType.object "java/lang/String"))]
set_option maxRecDepth 65536 in
theorem codes_eq : words1.filter isCode = codes1 := rfl
theorem w_codes : ∀ c ∈ words1.filter isCode, c.before args0 about1 = true := by
  rw [codes_eq]
  intro c hc
  simp only [codes1, List.mem_cons, List.not_mem_nil, or_false] at hc
  rcases hc with rfl | rfl | rfl | rfl | rfl | rfl | rfl | rfl | rfl | rfl | rfl | rfl | rfl | rfl | rfl | rfl | rfl | rfl | rfl | rfl | rfl | rfl | rfl | rfl | rfl | rfl | rfl | rfl | rfl | rfl | rfl | rfl | rfl | rfl | rfl | rfl | rfl | rfl | rfl | rfl | rfl | rfl | rfl | rfl | rfl | rfl | rfl | rfl | rfl
  · exact w_c0
  · exact w_c1
  · exact w_c2
  · exact w_c3
  · exact w_c4
  · exact w_c5
  · exact w_c6
  · exact w_c7
  · exact w_c8
  · exact w_c9
  · exact w_c10
  · exact w_c11
  · exact w_c12
  · exact w_c13
  · exact w_c14
  · exact w_c15
  · exact w_c16
  · exact w_c17
  · exact w_c18
  · exact w_c19
  · exact w_c20
  · exact w_c21
  · exact w_c22
  · exact w_c23
  · exact w_c24
  · exact w_c25
  · exact w_c26
  · exact w_c27
  · exact w_c28
  · exact w_c29
  · exact w_c30
  · exact w_c31
  · exact w_c32
  · exact w_c33
  · exact w_c34
  · exact w_c35
  · exact w_c36
  · exact w_c37
  · exact w_c38
  · exact w_c39
  · exact w_c40
  · exact w_c41
  · exact w_c42
  · exact w_c43
  · exact w_c44
  · exact w_c45
  · exact w_c46
  · exact w_c47
  · exact w_c48
set_option maxRecDepth 65536 in
theorem w_t1 : (words1.take 24).all (fun c => isCode c || c.before args0 about1) = true := by decide +kernel
set_option maxRecDepth 65536 in
theorem w_t2 : ((words1.drop 24).take 24).all (fun c => isCode c || c.before args0 about1) = true := by decide +kernel
set_option maxRecDepth 65536 in
theorem w_t3 : (((words1.drop 24).drop 24).take 24).all (fun c => isCode c || c.before args0 about1) = true := by decide +kernel
set_option maxRecDepth 65536 in
theorem w_t4 : ((((words1.drop 24).drop 24).drop 24).take 24).all (fun c => isCode c || c.before args0 about1) = true := by decide +kernel
set_option maxRecDepth 65536 in
theorem w_t5 : (((((words1.drop 24).drop 24).drop 24).drop 24).take 24).all (fun c => isCode c || c.before args0 about1) = true := by decide +kernel
set_option maxRecDepth 65536 in
theorem w_t6 : ((((((words1.drop 24).drop 24).drop 24).drop 24).drop 24).take 24).all (fun c => isCode c || c.before args0 about1) = true := by decide +kernel
set_option maxRecDepth 65536 in
theorem w_t7 : (((((((words1.drop 24).drop 24).drop 24).drop 24).drop 24).drop 24).take 24).all (fun c => isCode c || c.before args0 about1) = true := by decide +kernel
set_option maxRecDepth 65536 in
theorem w_t8 : ((((((((words1.drop 24).drop 24).drop 24).drop 24).drop 24).drop 24).drop 24).take 24).all (fun c => isCode c || c.before args0 about1) = true := by decide +kernel
set_option maxRecDepth 65536 in
theorem w_t9 : (((((((((words1.drop 24).drop 24).drop 24).drop 24).drop 24).drop 24).drop 24).drop 24).take 24).all (fun c => isCode c || c.before args0 about1) = true := by decide +kernel
set_option maxRecDepth 65536 in
theorem w_t10 : (((((((((words1.drop 24).drop 24).drop 24).drop 24).drop 24).drop 24).drop 24).drop 24).drop 24).all (fun c => isCode c || c.before args0 about1) = true := by decide +kernel
theorem w_tables : (allAtoms (Jvm.Cond.code x code maxLocals ret :: tables_1)).before args0 about1 = true := by
  rw [allAtoms_all]
  show words1.all (fun c => c.before args0 about1) = true
  refine all_split ?_ w_codes
  rw [← List.take_append_drop 24 words1, List.all_append, w_t1, ← List.take_append_drop 24 (words1.drop 24), List.all_append, w_t2, ← List.take_append_drop 24 ((words1.drop 24).drop 24), List.all_append, w_t3, ← List.take_append_drop 24 (((words1.drop 24).drop 24).drop 24), List.all_append, w_t4, ← List.take_append_drop 24 ((((words1.drop 24).drop 24).drop 24).drop 24), List.all_append, w_t5, ← List.take_append_drop 24 (((((words1.drop 24).drop 24).drop 24).drop 24).drop 24), List.all_append, w_t6, ← List.take_append_drop 24 ((((((words1.drop 24).drop 24).drop 24).drop 24).drop 24).drop 24), List.all_append, w_t7, ← List.take_append_drop 24 (((((((words1.drop 24).drop 24).drop 24).drop 24).drop 24).drop 24).drop 24), List.all_append, w_t8, ← List.take_append_drop 24 ((((((((words1.drop 24).drop 24).drop 24).drop 24).drop 24).drop 24).drop 24).drop 24), List.all_append, w_t9, w_t10]
  rfl
set_option maxRecDepth 65536 in
theorem w_rest : rest_1_c.before args0 about1 = true := by decide +kernel
set_option maxRecDepth 65536 in
theorem w_case : (Jvm.Cond.and given_1 narrow_1).before args0 about1 = true := by decide +kernel
set_option maxRecDepth 65536 in
theorem w_consts : constsHeld consts_1 about1 := Jvm.Lit.constsHeldB_iff.mp (by decide +kernel)
theorem w_applies : (headSpec (Jvm.Cond.code x code maxLocals ret :: tables_1) room_1).applies x e0.platform about1 = true :=
  (Spec.applies_iff w_frames).mpr ⟨w_running, w_runnable, w_alone, w_named, w_hears, w_ripe, w_room, w_tables⟩
theorem atStart : AtStart classFile x code maxLocals ret World_1 tables_1 room_1 Calls_1 rest_1 Pre_1 launch0 p0 e0 about1 theMethod args0 below0 :=
  ⟨lists_1, trivial, launch0.admits_env _ _ _, launch0.least_env, fairChoices_fair.cas, fairChoices_fair.clock, w_frames, w_args, w_heap, w_applies, ⟨w_consts, trivial⟩, w_rest, w_case⟩
end start1
theorem witness_1 : WitnessClaimed_1 := ⟨start1.p0, start1.e0, start1.about1, start1.theMethod, start1.args0, start1.below0, start1.atStart⟩
end Jvm.Pilot.@@N@@
