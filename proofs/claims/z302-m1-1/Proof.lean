import JvmDerived
import JvmDerived.Pilot.@@N@@Statement
import JvmDerived.Pilot.@@N@@Code
set_option linter.unusedVariables false
set_option linter.unusedSimpArgs false
namespace Jvm.Pilot.@@N@@
open Jvm Jvm.ClassFile Sem Op Lib Jvm.Free Jvm.Stand Jvm.LawKit Jvm.RoadKit Bundle Jvm.Pilot.@@N@@.Jvm.D
theorem own_w {Z : State} {a0 : Array Value} {d : Jvm.Cond} (hw : ∀ d ∈ tables_1, d.before a0 Z = true) (i : Nat) (h : tables_1[i]? = some d) : d.before a0 Z = true := hw d (List.mem_of_getElem? h)
section OwnKit
variable {p : Program} {l : Launch} {e : Env} {R : Room} {s : State} {m : MethodId} {args : Array Value} {below : List Frame} {meth : Method} {c : Code} {T : State} {locs : List Loc} {cells slots : Nat}
/-- the run from S comes to an end of which Q holds -/
def own_Go (p : Program) (e : Env) (below : List Frame) (Q : Outcome → State → Prop) (S : State) : Prop := ∃ s₂ o, Steps p.tables e below S s₂ ∧ s₂.status = .running ∧ Ended s₂ below o ∧ Q o s₂
theorem own_via {Q : Outcome → State → Prop} {A B : State} (h : ∀ t, Steps p.tables e below B t → Steps p.tables e below A t) (g : own_Go p e below Q B) : own_Go p e below Q A := by
  obtain ⟨s2, o, h1, r⟩ := g
  exact ⟨s2, o, h _ h1, r⟩
theorem own_seq {Q : Outcome → State → Prop} {A B : State} (h : own_Go p e below Q B → own_Go p e below Q A) (k : own_Go p e below Q B) : own_Go p e below Q A := h k
theorem own_cast {Q : Outcome → State → Prop} {g g' : JFrame} (q : g = g') (k : own_Go p e below Q (T.setTop g')) : own_Go p e below Q (T.setTop g) := q ▸ k
theorem own_keep_mono {h0 h : Heap} {ws ws' : List Addr} (K : Keep h0 h ws) (q : ∀ x ∈ ws, x ∈ ws') : Keep h0 h ws' := ⟨K.1, fun x c a b => K.2.1 x c a fun z => b (q x z), K.2.2⟩
theorem own_ret0 {Qv : Option Value → Heap → List Loc → Prop} {kc ks : Nat} (X : Stand p l e R s m args below meth c T locs cells slots) (hlocks : meth.locks = false) (hx : p.tables.exec = Jvm.exec) {pc : Nat} {Ls : Array Slot} (hret : meth.sig.returnType = none) (hd : decode c.code pc = .ok (.return_, 1)) (hk : cells ≤ kc) (hs : slots ≤ ks) (hQ : Qv none T.heap locs) :
    own_Go p e below (fun o U' => ∃ v L, o = .returned v ∧ Qv v U'.heap L ∧ FrameEnd s o U' L kc ks) (T.setTop (mkF m pc Ls [])) := by
  obtain ⟨fs, hr, hrun, hended, hW, hsame⟩ := X.leave (v := none) (fun _ => rfl) hlocks
  exact ⟨_, _, X.returnOut hx hret hd hr, hrun, hended, _, _, rfl, hQ, ⟨_, rfl⟩, hW, hsame.mono hk hs⟩
theorem own_retv {Qv : Option Value → Heap → List Loc → Prop} {kc ks : Nat} (X : Stand p l e R s m args below meth c T locs cells slots) (hlocks : meth.locks = false) (hx : p.tables.exec = Jvm.exec) {pc : Nat} {Ls : Array Slot} {w : Value} {t : FieldType} {i : Instr} {rest : List Value} (hret : meth.sig.returnType = some t) (hn : narrow t w = w)
    (hi : (i = .ireturn ∧ (t = .int ∨ t = .boolean ∨ t = .byte ∨ t = .char ∨ t = .short) ∧ ∃ z, w = .int z) ∨ (i = .lreturn ∧ t = .long ∧ ∃ z, w = .long z) ∨ (i = .dreturn ∧ t = .double ∧ ∃ z, w = .double z) ∨ (i = .freturn ∧ t = .float ∧ ∃ z, w = .float z) ∨ (i = .areturn ∧ t.isReference = true ∧ w.isRef = true))
    (hd : decode c.code pc = .ok (i, 1)) (hk : cells ≤ kc) (hs : slots ≤ ks) (hQ : Qv (some w) T.heap locs) :
    own_Go p e below (fun o U' => ∃ v L, o = .returned v ∧ Qv v U'.heap L ∧ FrameEnd s o U' L kc ks) (T.setTop (mkF m pc Ls (w :: rest))) := by
  obtain ⟨fs, hr, hrun, hended, hW, hsame⟩ := X.leave (v := some w) (fun h => by rw [hret] at h; cases h) hlocks
  exact ⟨_, _, retOut X hx hret hn hi hd hr, hrun, hended, _, _, rfl, hQ, ⟨_, rfl⟩, hW, hsame.mono hk hs⟩
theorem own_pop2L {tb : Tables} [Ours tb] {e : Env} {below : List Frame} {T target : State} {m : MethodId} {c : Code} {g : JFrame} (h : At T m c below) (hx : tb.exec = Jvm.exec) (hg : g.method = m) {x : Int64} {rest : List Value} (hd : decode c.code g.pc = .ok (.pop2, 1)) (hs : g.stack = .long x :: rest)
    (hr : Steps tb e below (T.setTop { g with pc := g.pc + 1, stack := rest }) target) : Steps tb e below (T.setTop g) target := by
  subst hg
  jvm_step h [h.top, hx, hd, hs, Value.category]
  exact hr
theorem own_narR {t : FieldType} {w : Value} (h : w.isRef = true) : narrow t w = w := by
  rcases ref_cases h with rfl | ⟨y, rfl⟩ <;> cases t <;> rfl
theorem own_fitR {C : String} {w : Value} (h : w.isRef = true) : fits (.object C) w = true := by
  rcases ref_cases h with rfl | ⟨y, rfl⟩ <;> rfl
theorem own_fitA {t : FieldType} {w : Value} (h : w.isRef = true) : fits (.array t) w = true := by
  rcases ref_cases h with rfl | ⟨y, rfl⟩ <;> rfl
end OwnKit

section OwnCold
variable {p : Program} {l : Launch} {e : Env} {R : Room} {s : State} {m : MethodId} {args : Array Value} {below : List Frame} {meth : Method} {c : Code} {T : State} {locs : List Loc} {cells slots : Nat} {Z : State} {a0 : Array Value} {h : Heap}
/-- a callee that may load a String constant for the first time; J: a word on the tables at its start; Q speaks of the tables at its end too -/
theorem own_backS {y : MethodName} {bytes : ByteArray} {maxL : Nat} {ret : Option FieldType} {rm : Room} {len W : Nat} {as' : Array Value} {J : Vm → Prop} {Q : Option Value → Heap → List Loc → Vm → Prop}
    (hM : MetFree l y (head1 [Cond.code y bytes maxL ret] rm) (fun a U => a = as' ∧ Z.Warmed39 U.vm ∧ U.heap = h ∧ J U.vm) (fun _ _ _ _ _ => True) (fun _ U o U' => ∃ v L, o = .returned v ∧ Q v U'.heap L U'.vm ∧ ReturnedEndW U o U' L rm.cells rm.slots))
    (hZ : Z.Warmed39 s.vm) (wc : (Cond.code y bytes maxL ret).before a0 Z = true) (wz : (Cond.initialized y.cls).before a0 Z = true) (hf : rm.frames + 1 ≤ R.frames) (hl : W + (maxL + 11) + rm.locals ≤ R.locals) :
    BackS l R p e below s args y len W (fun A a => a = as' ∧ A.U.heap = h ∧ J A.U.vm ∧ A.cells + rm.cells ≤ R.cells ∧ A.slots + rm.slots ≤ R.slots)
      (fun A _ v B => ∃ L, Q v B.U.heap L B.U.vm ∧ B.locs = A.locs ++ L ∧ B.cells = A.cells + rm.cells ∧ B.slots = A.slots + rm.slots) := by
  refine BackS.of_freeW (bytes := bytes) (maxL := maxL) (ret := ret) (E := fun _ _ o t L k n => k = rm.cells ∧ n = rm.slots ∧ ∃ v, o = .returned v ∧ Q v t.heap L t.vm) hM hf hl ?_ ?_ ?_ ?_ ?_
  · intro m meth c A a Y hp
    have hU : Z.Warmed39 A.U.vm := wtrans hZ Y.warmed
    refine ⟨?_, mv hU wc, mv hU wz, hp.2.2.2.1, hp.2.2.2.2⟩
    show (Cond.and _ .tt).before a A.U = true
    rw [Cond.before_and, mv hU wc]; rfl
  · intro m meth c A a g mk Y hp
    exact ⟨hp.1, wtrans hZ Y.warmed, hp.2.1, hp.2.2.1⟩
  · intros; trivial
  · rintro _ _ _ _ ⟨v, L, h1, h2, h3⟩
    exact ⟨L, _, _, h3, rfl, rfl, v, h1, h2⟩
  · rintro m meth c A a g mk v t L k n Y hp - - ⟨e1, e2, v', e3, e4⟩
    cases e3; subst e1 e2
    exact ⟨L, e4, rfl, rfl, rfl⟩
theorem own_ret0W {Qv : Option Value → Heap → List Loc → Vm → Prop} {kc ks : Nat} {vm0 : Vm} {k0 : Nat} (X : Stand p l e R (s.setVm vm0) m args below meth c T locs cells slots) (hS : s.Since vm0 k0) (hk0 : k0 ≤ T.heap.size) (hlocks : meth.locks = false) (hx : p.tables.exec = Jvm.exec) {pc : Nat} {Ls : Array Slot} (hret : meth.sig.returnType = none) (hd : decode c.code pc = .ok (.return_, 1)) (hk : cells ≤ kc) (hs : slots ≤ ks) (hQ : Qv none T.heap locs T.vm) :
    own_Go p e below (fun o U' => ∃ v L, o = .returned v ∧ Qv v U'.heap L U'.vm ∧ ReturnedEndW s o U' L kc ks) (T.setTop (mkF m pc Ls [])) := by
  obtain ⟨fs, hr, hrun, hended, hE⟩ := X.leaveW hS hk0 (v := none) (fun _ => rfl) hlocks
  exact ⟨_, _, X.returnOut hx hret hd hr, hrun, hended, _, _, rfl, hQ, hE.1, hE.2.1, hE.2.2.1, hE.2.2.2.mono hk hs⟩
theorem own_retvW {Qv : Option Value → Heap → List Loc → Vm → Prop} {kc ks : Nat} {vm0 : Vm} {k0 : Nat} (X : Stand p l e R (s.setVm vm0) m args below meth c T locs cells slots) (hS : s.Since vm0 k0) (hk0 : k0 ≤ T.heap.size) (hlocks : meth.locks = false) (hx : p.tables.exec = Jvm.exec) {pc : Nat} {Ls : Array Slot} {w : Value} {t : FieldType} {i : Instr} {rest : List Value} (hret : meth.sig.returnType = some t) (hn : narrow t w = w)
    (hi : (i = .ireturn ∧ (t = .int ∨ t = .boolean ∨ t = .byte ∨ t = .char ∨ t = .short) ∧ ∃ z, w = .int z) ∨ (i = .lreturn ∧ t = .long ∧ ∃ z, w = .long z) ∨ (i = .dreturn ∧ t = .double ∧ ∃ z, w = .double z) ∨ (i = .freturn ∧ t = .float ∧ ∃ z, w = .float z) ∨ (i = .areturn ∧ t.isReference = true ∧ w.isRef = true))
    (hd : decode c.code pc = .ok (i, 1)) (hk : cells ≤ kc) (hs : slots ≤ ks) (hQ : Qv (some w) T.heap locs T.vm) :
    own_Go p e below (fun o U' => ∃ v L, o = .returned v ∧ Qv v U'.heap L U'.vm ∧ ReturnedEndW s o U' L kc ks) (T.setTop (mkF m pc Ls (w :: rest))) := by
  obtain ⟨fs, hr, hrun, hended, hE⟩ := X.leaveW hS hk0 (v := some w) (fun h => by rw [hret] at h; cases h) hlocks
  exact ⟨_, _, retOut X hx hret hn hi hd hr, hrun, hended, _, _, rfl, hQ, hE.1, hE.2.1, hE.2.2.1, hE.2.2.2.mono hk hs⟩
end OwnCold

theorem own_wS {Z : State} {a0 : Array Value} (hw : ∀ d ∈ tables_1, d.before a0 Z = true) : ∀ a ∈ Bundle.stringAtoms, a.before a0 Z = true := by
  intro d hd
  simp only [Bundle.stringAtoms, List.mem_cons, List.not_mem_nil, or_false] at hd
  rcases hd with rfl | rfl | rfl | rfl | rfl | rfl | rfl
  · exact (own_w hw 6 rfl)
  · exact (own_w hw 5 rfl)
  · exact (own_w hw 19 rfl)
  · exact (own_w hw 20 rfl)
  · exact (own_w hw 21 rfl)
  · exact (own_w hw 22 rfl)
  · exact (own_w hw 23 rfl)
/-- a String of known chars, each 0 to 255 -/
def own_Str (Z : State) (h : Heap) (a : Addr) (cs : List Int32) : Prop := Exa Z h a "java/lang/String" ∧ Fld Z h a "java/lang/String" "coder" "B" (.int 0) ∧ (∃ (t : Addr) (k : ClassId), Fld Z h a "java/lang/String" "value" "[B" (.ref t) ∧ Arv Z h t k .byte (Int32.ofNat cs.length) ((cs.map fun c => c.toInt8.toInt32).map Value.int) (.int 0)) ∧ (∀ c ∈ cs, ¬ c < 0 ∧ ¬ (255 : Int32) < c) ∧ cs.length ≤ 4000
theorem own_Str.keep0 {Z : State} {h h' : Heap} {a : Addr} {cs : List Int32} (F : own_Str Z h a cs) (K : Keep h h' []) : own_Str Z h' a cs := by
  obtain ⟨E, C, ⟨t, k, V, A⟩, r⟩ := F
  exact ⟨E.keep K, C.keep K nin0, ⟨t, k, V.keep K nin0, A.keep K nin0⟩, r⟩
/-- the cells at ws are objects, no Strings -/
def own_Off (Z : State) (h : Heap) (ws : List Addr) : Prop := ∀ b ∈ ws, ∃ (C : String) (n : Nat) (a0 : Array Value), Exa Z h b C ∧ C ≠ "java/lang/String" ∧ (Jvm.Cond.instantiable C n).before a0 Z = true
theorem own_off0 {Z : State} {h : Heap} : own_Off Z h [] := fun _ q => nomatch q
theorem own_offS {Z : State} {h : Heap} {b : Addr} {ws : List Addr} {C : String} {n : Nat} {a0 : Array Value} (E : Exa Z h b C) (hn : C ≠ "java/lang/String") (wi : (Jvm.Cond.instantiable C n).before a0 Z = true) (r : own_Off Z h ws) : own_Off Z h (b :: ws) := fun x q => (List.mem_cons.mp q).elim (fun u => u ▸ ⟨C, n, a0, E, hn, wi⟩) (r x)
theorem own_Str.keepO {Z : State} {h h' : Heap} {a : Addr} {cs : List Int32} {ws : List Addr} (F : own_Str Z h a cs) (K : Keep h h' ws) (O : own_Off Z h ws) : own_Str Z h' a cs := by
  obtain ⟨E, C, ⟨t, k, V, A⟩, r⟩ := F
  have na : a ∉ ws := fun q => by
    obtain ⟨D, n, a0, E', hn, wi⟩ := O a q
    exact Exa.ne E' E hn rfl
  have nt : t ∉ ws := fun q => by
    obtain ⟨D, n, a0, E', hn, wi⟩ := O t q
    exact Exa.neArv E' A wi rfl
  exact ⟨E.keep K, C.keep K na, ⟨t, k, V.keep K na, A.keep K nt⟩, r⟩
theorem own_up {cs : List Int32} (h : ∀ c ∈ cs, ¬ c < 0 ∧ ¬ (255 : Int32) < c) : ∀ c ∈ cs, ¬ c < 0 ∧ ¬ (65535 : Int32) < c := fun c hc => ⟨(h c hc).1, fun q => (h c hc).2 (by rw [Int32.lt_iff_toInt_lt] at q ⊢; have e1 : (65535 : Int32).toInt = 65535 := rfl; have e2 : (255 : Int32).toInt = 255 := rfl; omega)⟩
theorem own_255 {z : Int32} (h : ¬ z < 0 ∧ ¬ (255 : Int32) < z) : ∃ k : Fin 256, z = Int32.ofNat k.val := by
  obtain ⟨h1, h2⟩ := h
  rw [Int32.lt_iff_toInt_lt] at h1 h2
  have e1 : (0 : Int32).toInt = 0 := rfl
  have e2 : (255 : Int32).toInt = 255 := rfl
  refine ⟨⟨z.toInt.toNat, by omega⟩, ?_⟩
  apply Int32.toInt_inj.mp
  rw [Int32.toInt_ofNat_small (by show z.toInt.toNat < _; omega)]
  show _ = ((z.toInt.toNat : Nat) : Int)
  omega
theorem own_nar {z : Int32} (h : ¬ z < 0 ∧ ¬ (255 : Int32) < z) : nar .char z = z := by
  obtain ⟨k, rfl⟩ := own_255 h
  exact (by decide +kernel : ∀ k : Fin 256, nar .char (Int32.ofNat k.val) = Int32.ofNat k.val) k
theorem own_narV {z : Int32} (h : ¬ z < 0 ∧ ¬ (255 : Int32) < z) : narrow .char (.int z) = .int z := congrArg Value.int (own_nar h)

theorem own_EW {Z : State} {a0 : Array Value} (hw : ∀ d ∈ tables_1, d.before a0 Z = true) : EW Z a0 consts_1 := (EW.cons (own_w hw 18 rfl) (by decide) EW.nil)
theorem own_CHstay {Z s : State} {a0 : Array Value} {EL : List (String × Nat)} {h : Heap} {vm0 vm1 : Vm} (H : CHv Z EL vm0 h) (hZ : Z.Warmed39 vm0) (w : EW Z a0 EL) (hW : (s.setVm vm0).WarmedH vm1) : CHv Z EL vm1 h :=
  (CHv.later (h' := h) hZ (hW := (show (Wst Z vm0 h).Warmed39 vm1 from hW.wide)) w ⟨Nat.le_refl _, fun _ _ q => q⟩ (Or.inl hW.interned_eq) H).1
theorem own_Sfstay {Z s : State} {a0 : Array Value} {EL : List (String × Nat)} {h : Heap} {vm0 vm1 : Vm} {x : Addr} (H : CHv Z EL vm0 h) (hZ : Z.Warmed39 vm0) (w : EW Z a0 EL) (hW : (s.setVm vm0).WarmedH vm1) (hx : x < h.size) (S : Safe Z EL vm0 h x) : Safe Z EL vm1 h x := fun B =>
  ((CHv.later (h' := h) hZ (hW := (show (Wst Z vm0 h).Warmed39 vm1 from hW.wide)) w ⟨Nat.le_refl _, fun _ _ q => q⟩ (Or.inl hW.interned_eq) H).2 x B).elim S fun q => absurd hx (Nat.not_lt.mpr q)
theorem own_SfArv {Z : State} {EL : List (String × Nat)} {vm : Vm} {h : Heap} {a : Addr} {k : ClassId} {ty : FieldType} {z : Int32} {vs : List Value} {d : Value} (hal : Z.vm.Alike vm) (A : Arv Z h a k ty z vs d) (ht : ty ≠ .byte) : Safe Z EL vm h a := by
  obtain ⟨c, A, -⟩ := A
  exact Safe.arr hal A ht

theorem own_byte (x : Int32) : ¬ ((255 : Int32) < ((x &&& (255 : Int32)).toUInt32.toUInt16.toUInt32.toInt32)) := by
  have t : ∀ k : Fin 256, ¬ (255 : Int32) < ((Int32.ofNat k.val).toUInt32.toUInt16.toUInt32.toInt32) := by decide +kernel
  have h : (x &&& 255).toBitVec.toNat < 256 := by
    simp only [Int32.toBitVec_and, BitVec.toNat_and]
    exact Nat.lt_succ_of_le Nat.and_le_right
  have e : (x &&& 255) = Int32.ofNat (x &&& 255).toBitVec.toNat := by
    apply Int32.toBitVec_inj.mp
    show _ = BitVec.ofNat 32 _
    rw [BitVec.ofNat_toNat]; simp
  rw [e]
  exact t ⟨_, h⟩

theorem d9_0 : decode jdk_43_method_3_code 0 = .ok (.iload_n 0, 1) := by decide +kernel
theorem d9_1 : decode jdk_43_method_3_code 1 = .ok (.sipush 255, 3) := by decide +kernel
theorem d9_4 : decode jdk_43_method_3_code 4 = .ok (.if_icmp .gt 7, 3) := by decide +kernel
theorem d9_7 : decode jdk_43_method_3_code 7 = .ok (.iconst 1, 1) := by decide +kernel
theorem d9_8 : decode jdk_43_method_3_code 8 = .ok (.goto 4, 3) := by decide +kernel
theorem d9_11 : decode jdk_43_method_3_code 11 = .ok (.iconst 0, 1) := by decide +kernel
theorem d9_12 : decode jdk_43_method_3_code 12 = .ok (.ireturn, 1) := by decide +kernel
theorem pn_java_lang_StringLatin1 : plainName "java/lang/StringLatin1" = true := by first | (simp [plainName, overriddenIn]; done) | decide +kernel
theorem ef_canEncode (m : MethodId) (p1 : Int32) : entryFrame m #[(.int p1)] 1 = mkF m 0 #[.val (.int p1)] [] := by first | (simp [entryFrame, mkF, argsToLocals, Value.category]; done) | rfl
def QcanEncode (Z : State) (p1 : Int32) (h0 : Heap) (n0 : Nat) (v : Option Value) (h : Heap) (L : List Loc) : Prop := v = some (.int (1 : Int32)) ∧ Fr n0 L ∧ Keep h0 h []
set_option maxRecDepth 65536 in
set_option maxHeartbeats 40000000 in
theorem rmcanEncode (l : Launch) (Z : State) (a0 : Array Value) (hw : ∀ d ∈ tables_1, d.before a0 Z = true) (ws : List Jvm.Cond) (p1 : Int32) (h0 : Heap) (n0 : Nat) (Z0 : n0 ≤ h0.size) (hp : ¬ ((255 : Int32) < p1)) :
    MetFree l (⟨"java/lang/StringLatin1", "canEncode", "(C)Z"⟩ : MethodName) (head1 (Jvm.Cond.code (⟨"java/lang/StringLatin1", "canEncode", "(C)Z"⟩ : MethodName) jdk_43_method_3_code 1 (some .boolean) :: ws) ({ frames := 0, cells := 0, slots := 0, locals := 0 } : Room)) (fun a U => a = #[(.int p1)] ∧ Z.Warmed39 U.vm ∧ U.heap = h0) (fun _ _ _ _ _ => True) (fun _ U o U' => ∃ v L, o = .returned v ∧ QcanEncode Z p1 h0 n0 v U'.heap L ∧ FrameEnd U o U' L ({ frames := 0, cells := 0, slots := 0, locals := 0 } : Room).cells ({ frames := 0, cells := 0, slots := 0, locals := 0 } : Room).slots) := by
  refine MetFree.of_bodySF (plainFor_of_name pn_java_lang_StringLatin1) hisR ?_
  intro p e s m args below meth c s₁ Bd hml0 hP hK
  obtain ⟨rfl, hZ, hH0⟩ := hP
  have hx := Bd.exec
  have hby := Bd.bytes
  have hml : c.maxLocals = 1 := hml0
  have hown : s.vm.findClass "java/lang/StringLatin1" = some m.cls := findClass_of_methodNamed Bd.named
  have hnm := (name_of_methodNamed Bd.named Bd.method).1
  have X0 : Stand p l e ({ frames := 0, cells := 0, slots := 0, locals := 0 } : Room) s m #[(.int p1)] below meth c s₁ [] 0 0 := Stand.of_body Bd
  have e0 : s₁.heap = h0 := by rw [← hH0, Bd.state]; rfl
  have N0 := Fr.nil n0
  refine own_cast (ef_canEncode m p1) ?_
  show own_Go p e below (fun o U' => ∃ v L, o = .returned v ∧ QcanEncode Z p1 h0 n0 v U'.heap L ∧ FrameEnd s o U' L ({ frames := 0, cells := 0, slots := 0, locals := 0 } : Room).cells ({ frames := 0, cells := 0, slots := 0, locals := 0 } : Room).slots) (s₁.setTop (mkF m 0 #[.val (.int p1)] []))
  refine own_via (fun _ => XS.iloadN X0.here hx rfl (hb hby d9_0) rfl) ?_
  show own_Go p e below _ (s₁.setTop (mkF m 1 #[.val (.int p1)] [(.int p1)]))
  refine own_via (fun _ => XS.sipush X0.here hx rfl (hb hby d9_1)) ?_
  show own_Go p e below _ (s₁.setTop (mkF m 4 #[.val (.int p1)] [(.int (255 : Int32)), (.int p1)]))
  refine own_via (fun _ => XS.icmpNo X0.here hx rfl (hb hby d9_4) rfl (flt (hp : ¬ ((255 : Int32) < p1))).2.2.1) ?_
  show own_Go p e below _ (s₁.setTop (mkF m 7 #[.val (.int p1)] []))
  refine own_via (fun _ => XS.iconst X0.here hx rfl (hb hby d9_7)) ?_
  show own_Go p e below _ (s₁.setTop (mkF m 8 #[.val (.int p1)] [(.int (1 : Int32))]))
  refine own_via (fun _ => XS.goto X0.here hx rfl (pc0 := 8) (pc' := 12) rfl (hb hby d9_8) (by decide) (by decide)) ?_
  show own_Go p e below _ (s₁.setTop (mkF m 12 #[.val (.int p1)] [(.int (1 : Int32))]))
  exact own_retv X0 Bd.notSynchronized hx Bd.returns rfl (Or.inl ⟨rfl, (by simp), _, rfl⟩) (hb hby d9_12) (by decide) (by decide) (by rw [e0]; exact ⟨rfl, N0, (Keep.refl h0 [])⟩)
theorem d10_0 : decode jdk_43_method_46_code 0 = .ok (.iconst 1, 1) := by decide +kernel
theorem d10_1 : decode jdk_43_method_46_code 1 = .ok (.newarray .byte, 2) := by decide +kernel
theorem d10_3 : decode jdk_43_method_46_code 3 = .ok (.dup, 1) := by decide +kernel
theorem d10_4 : decode jdk_43_method_46_code 4 = .ok (.iconst 0, 1) := by decide +kernel
theorem d10_5 : decode jdk_43_method_46_code 5 = .ok (.iload_n 0, 1) := by decide +kernel
theorem d10_6 : decode jdk_43_method_46_code 6 = .ok (.i2b, 1) := by decide +kernel
theorem d10_7 : decode jdk_43_method_46_code 7 = .ok (.bastore, 1) := by decide +kernel
theorem d10_8 : decode jdk_43_method_46_code 8 = .ok (.areturn, 1) := by decide +kernel
theorem ef_toBytes (m : MethodId) (p1 : Int32) : entryFrame m #[(.int p1)] 1 = mkF m 0 #[.val (.int p1)] [] := by first | (simp [entryFrame, mkF, argsToLocals, Value.category]; done) | rfl
def QtoBytes (Z : State) (p1 : Int32) (h0 : Heap) (n0 : Nat) (v : Option Value) (h : Heap) (L : List Loc) : Prop := ∃ r : Addr, ∃ k : ClassId, v = some (.ref r) ∧ Fr n0 L ∧ Keep h0 h [] ∧ (h0.size ≤ r) ∧ (Arv Z h r k .byte (1 : Int32) [(.int (nar .byte (p1.toInt8.toInt32)))] (.int (0 : Int32)))
set_option maxRecDepth 65536 in
set_option maxHeartbeats 40000000 in
theorem rmtoBytes (l : Launch) (Z : State) (a0 : Array Value) (hw : ∀ d ∈ tables_1, d.before a0 Z = true) (ws : List Jvm.Cond) (p1 : Int32) (h0 : Heap) (n0 : Nat) (Z0 : n0 ≤ h0.size) :
    MetFree l (⟨"java/lang/StringLatin1", "toBytes", "(C)[B"⟩ : MethodName) (head1 (Jvm.Cond.code (⟨"java/lang/StringLatin1", "toBytes", "(C)[B"⟩ : MethodName) jdk_43_method_46_code 1 (some (.array .byte)) :: ws) ({ frames := 0, cells := 1, slots := 1, locals := 0 } : Room)) (fun a U => a = #[(.int p1)] ∧ Z.Warmed39 U.vm ∧ U.heap = h0) (fun _ _ _ _ _ => True) (fun _ U o U' => ∃ v L, o = .returned v ∧ QtoBytes Z p1 h0 n0 v U'.heap L ∧ FrameEnd U o U' L ({ frames := 0, cells := 1, slots := 1, locals := 0 } : Room).cells ({ frames := 0, cells := 1, slots := 1, locals := 0 } : Room).slots) := by
  refine MetFree.of_bodySF (plainFor_of_name pn_java_lang_StringLatin1) hisR ?_
  intro p e s m args below meth c s₁ Bd hml0 hP hK
  obtain ⟨rfl, hZ, hH0⟩ := hP
  have hx := Bd.exec
  have hby := Bd.bytes
  have hml : c.maxLocals = 1 := hml0
  have hown : s.vm.findClass "java/lang/StringLatin1" = some m.cls := findClass_of_methodNamed Bd.named
  have hnm := (name_of_methodNamed Bd.named Bd.method).1
  have X0 : Stand p l e ({ frames := 0, cells := 1, slots := 1, locals := 0 } : Room) s m #[(.int p1)] below meth c s₁ [] 0 0 := Stand.of_body Bd
  have e0 : s₁.heap = h0 := by rw [← hH0, Bd.state]; rfl
  have N0 := Fr.nil n0
  refine own_cast (ef_toBytes m p1) ?_
  show own_Go p e below (fun o U' => ∃ v L, o = .returned v ∧ QtoBytes Z p1 h0 n0 v U'.heap L ∧ FrameEnd s o U' L ({ frames := 0, cells := 1, slots := 1, locals := 0 } : Room).cells ({ frames := 0, cells := 1, slots := 1, locals := 0 } : Room).slots) (s₁.setTop (mkF m 0 #[.val (.int p1)] []))
  refine own_via (fun _ => XS.iconst X0.here hx rfl (hb hby d10_0)) ?_
  show own_Go p e below _ (s₁.setTop (mkF m 1 #[.val (.int p1)] [(.int (1 : Int32))]))
  obtain ⟨T_1, h_1, k_1, X_1, e_1, E_1, A_1, st_1⟩ := newP X0 hx hZ (own_w hw 19 rfl) e0 (g := (mkF m 1 #[.val (.int p1)] [(.int (1 : Int32))])) rfl (hb hby d10_1) rfl (by decide) (cap := 1) (by decide) (by decide) (by decide) (by decide)
  obtain ⟨b_1, g_1⟩ : ∃ z, z = h0.size := ⟨_, rfl⟩
  rw [← g_1] at A_1 st_1
  have V_1 : Arv Z h_1 b_1 k_1 .byte (1 : Int32) [(.int (0 : Int32))] (.int (0 : Int32)) := (Arv.new A_1 (by decide)).pad (pad_rep [] (.int (0 : Int32)) 1)
  refine own_via st_1 ?_
  show own_Go p e below _ (T_1.setTop (mkF m 3 #[.val (.int p1)] [(.ref b_1)]))
  refine own_via (fun _ => XS.dup X_1.here hx rfl (hb hby d10_3) rfl rfl) ?_
  show own_Go p e below _ (T_1.setTop (mkF m 4 #[.val (.int p1)] [(.ref b_1), (.ref b_1)]))
  refine own_via (fun _ => XS.iconst X_1.here hx rfl (hb hby d10_4)) ?_
  show own_Go p e below _ (T_1.setTop (mkF m 5 #[.val (.int p1)] [(.int (0 : Int32)), (.ref b_1), (.ref b_1)]))
  refine own_via (fun _ => XS.iloadN X_1.here hx rfl (hb hby d10_5) rfl) ?_
  show own_Go p e below _ (T_1.setTop (mkF m 6 #[.val (.int p1)] [(.int p1), (.int (0 : Int32)), (.ref b_1), (.ref b_1)]))
  refine own_via (fun _ => XS.i2b X_1.here hx rfl (hb hby d10_6) rfl) ?_
  show own_Go p e below _ (T_1.setTop (mkF m 7 #[.val (.int p1)] [(.int (p1.toInt8.toInt32)), (.int (0 : Int32)), (.ref b_1), (.ref b_1)]))
  obtain ⟨cl_2, Ar_2, q_2, S_2, M_2, H_2, G_2⟩ := V_1
  obtain ⟨T_2, h_2, X_2, e_2, W_2, st_2⟩ := stB X_1 hx hZ e_1 Ar_2 (j := (0 : Int32)) (inb_of S_2 ⟨by decide, by decide⟩) (g := (mkF m 7 #[.val (.int p1)] [(.int (p1.toInt8.toInt32)), (.int (0 : Int32)), (.ref b_1), (.ref b_1)])) rfl rfl (hb hby d10_7)
  have V_2 : Arv Z h_2 b_1 k_1 .byte (1 : Int32) [(.int (nar .byte (p1.toInt8.toInt32)))] (.int (0 : Int32)) := Arv.set Ar_2 q_2 S_2 M_2 H_2 G_2 (fits_nar_byte _) W_2 0 rfl (Nat.le_of_ble_eq_true rfl)
  have N_2 := Fr.snoc X_2 N0 (Nat.le_trans Z0 (Nat.le_of_eq g_1.symm))
  refine own_via st_2 ?_
  show own_Go p e below _ (T_2.setTop (mkF m 8 #[.val (.int p1)] [(.ref b_1)]))
  have K_3 : Keep h0 h_1 [] := (Keep.refl h0 []).ext E_1
  have K_4 : Keep h0 h_2 [] := Keep.wr (ws := []) K_3 W_2 (Or.inr (Nat.le_of_eq g_1.symm))
  exact own_retv X_2 Bd.notSynchronized hx Bd.returns rfl (Or.inr (Or.inr (Or.inr (Or.inr ⟨rfl, rfl, rfl⟩)))) (hb hby d10_8) (by decide) (by decide) (by rw [e_2]; exact ⟨b_1, k_1, rfl, N_2, K_4, (Nat.le_of_eq g_1.symm), V_2⟩)
theorem d11_0 : decode jdk_42_method_151_code 0 = .ok (.aload_n 0, 1) := by decide +kernel
theorem d11_1 : decode jdk_42_method_151_code 1 = .ok (.invokespecial 1, 3) := by decide +kernel
theorem d11_4 : decode jdk_42_method_151_code 4 = .ok (.aload_n 0, 1) := by decide +kernel
theorem d11_5 : decode jdk_42_method_151_code 5 = .ok (.aload_n 1, 1) := by decide +kernel
theorem d11_6 : decode jdk_42_method_151_code 6 = .ok (.putfield 9, 3) := by decide +kernel
theorem d11_9 : decode jdk_42_method_151_code 9 = .ok (.aload_n 0, 1) := by decide +kernel
theorem d11_10 : decode jdk_42_method_151_code 10 = .ok (.iload_n 2, 1) := by decide +kernel
theorem d11_11 : decode jdk_42_method_151_code 11 = .ok (.putfield 15, 3) := by decide +kernel
theorem d11_14 : decode jdk_42_method_151_code 14 = .ok (.return_, 1) := by decide +kernel
theorem pd_0 : parseMethodDescriptor "()V" = some ⟨[], none⟩ := by decide +kernel
theorem pn_java_lang_String : plainName "java/lang/String" = true := by first | (simp [plainName, overriddenIn]; done) | decide +kernel
theorem ef_strBB (m : MethodId) (a1 : Addr) (a2 : Addr) : entryFrame m #[(.ref a1), (.ref a2), (.int (0 : Int32))] 3 = mkF m 0 #[.val (.ref a1), .val (.ref a2), .val (.int (0 : Int32))] [] := by first | (simp [entryFrame, mkF, argsToLocals, Value.category]; done) | rfl
def QstrBB (Z : State) (a1 : Addr) (a2 : Addr) (h0 : Heap) (n0 : Nat) (v : Option Value) (h : Heap) (L : List Loc) : Prop := v = none ∧ Fr n0 L ∧ Keep h0 h [a1] ∧ (Fld Z h a1 "java/lang/String" "value" "[B" (.ref a2)) ∧ (Fld Z h a1 "java/lang/String" "coder" "B" (.int (0 : Int32)))
set_option maxRecDepth 65536 in
set_option maxHeartbeats 40000000 in
theorem rmstrBB (l : Launch) (Z : State) (a0 : Array Value) (hw : ∀ d ∈ tables_1, d.before a0 Z = true) (ws : List Jvm.Cond) (a1 : Addr) (a2 : Addr) (h0 : Heap) (n0 : Nat) (Z0 : n0 ≤ h0.size) (E1 : Exa Z h0 a1 "java/lang/String") (F1 : Fld Z h0 a1 "java/lang/String" "value" "[B" .null) (F2 : Fld Z h0 a1 "java/lang/String" "coder" "B" (.int (0 : Int32))) (g1 : n0 ≤ a1) :
    MetFree l (⟨"java/lang/String", "<init>", "([BB)V"⟩ : MethodName) (head1 (Jvm.Cond.code (⟨"java/lang/String", "<init>", "([BB)V"⟩ : MethodName) jdk_42_method_151_code 3 none :: ws) ({ frames := 1, cells := 0, slots := 0, locals := 12 } : Room)) (fun a U => a = #[(.ref a1), (.ref a2), (.int (0 : Int32))] ∧ Z.Warmed39 U.vm ∧ U.heap = h0) (fun _ _ _ _ _ => True) (fun _ U o U' => ∃ v L, o = .returned v ∧ QstrBB Z a1 a2 h0 n0 v U'.heap L ∧ FrameEnd U o U' L ({ frames := 1, cells := 0, slots := 0, locals := 12 } : Room).cells ({ frames := 1, cells := 0, slots := 0, locals := 12 } : Room).slots) := by
  refine MetFree.of_bodySF (plainFor_of_name pn_java_lang_String) hisR ?_
  intro p e s m args below meth c s₁ Bd hml0 hP hK
  obtain ⟨rfl, hZ, hH0⟩ := hP
  have hx := Bd.exec
  have hby := Bd.bytes
  have hml : c.maxLocals = 3 := hml0
  have hown : s.vm.findClass "java/lang/String" = some m.cls := findClass_of_methodNamed Bd.named
  have hnm := (name_of_methodNamed Bd.named Bd.method).1
  have X0 : Stand p l e ({ frames := 1, cells := 0, slots := 0, locals := 12 } : Room) s m #[(.ref a1), (.ref a2), (.int (0 : Int32))] below meth c s₁ [] 0 0 := Stand.of_body Bd
  have e0 : s₁.heap = h0 := by rw [← hH0, Bd.state]; rfl
  have N0 := Fr.nil n0
  refine own_cast (ef_strBB m a1 a2) ?_
  show own_Go p e below (fun o U' => ∃ v L, o = .returned v ∧ QstrBB Z a1 a2 h0 n0 v U'.heap L ∧ FrameEnd s o U' L ({ frames := 1, cells := 0, slots := 0, locals := 12 } : Room).cells ({ frames := 1, cells := 0, slots := 0, locals := 12 } : Room).slots) (s₁.setTop (mkF m 0 #[.val (.ref a1), .val (.ref a2), .val (.int (0 : Int32))] []))
  refine own_via (fun _ => XS.aloadN X0.here hx rfl (hb hby d11_0) rfl rfl) ?_
  show own_Go p e below _ (s₁.setTop (mkF m 1 #[.val (.ref a1), .val (.ref a2), .val (.int (0 : Int32))] [(.ref a1)]))
  obtain ⟨T_1, X_1, e_1, st_1⟩ := initO X0 hx hZ hown (own_w hw 15 rfl) (own_w hw 16 rfl) (own_w hw 17 rfl) e0 (g := (mkF m 1 #[.val (.ref a1), .val (.ref a2), .val (.int (0 : Int32))] [(.ref a1)])) rfl (by rw [hml]; rfl) rfl (hb hby d11_1) (by decide) (W := 0) (by show 2 * 0 + _ ≤ _; exact Nat.le_of_eq rfl) (by decide)
  refine own_via st_1 ?_
  show own_Go p e below _ (T_1.setTop (mkF m 4 #[.val (.ref a1), .val (.ref a2), .val (.int (0 : Int32))] []))
  refine own_via (fun _ => XS.aloadN X_1.here hx rfl (hb hby d11_4) rfl rfl) ?_
  show own_Go p e below _ (T_1.setTop (mkF m 5 #[.val (.ref a1), .val (.ref a2), .val (.int (0 : Int32))] [(.ref a1)]))
  refine own_via (fun _ => XS.aloadN X_1.here hx rfl (hb hby d11_5) rfl rfl) ?_
  show own_Go p e below _ (T_1.setTop (mkF m 6 #[.val (.ref a1), .val (.ref a2), .val (.int (0 : Int32))] [(.ref a2), (.ref a1)]))
  obtain ⟨T_2, h_2, X_2, e_2, W_2, st_2⟩ := putF X_1 hx hZ hown (host := "") (Or.inl (own_w hw 24 rfl)) Via.refl e_1 F1 E1 (Or.inr ⟨(own_w hw 20 rfl), rfl, hnm⟩) (own_w hw 5 rfl) (ty := (.array .byte)) (by decide) rfl rfl (g := (mkF m 6 #[.val (.ref a1), .val (.ref a2), .val (.int (0 : Int32))] [(.ref a2), (.ref a1)])) rfl rfl (hb hby d11_6)
  have F_3 : Fld Z h_2 a1 "java/lang/String" "coder" "B" (.int (0 : Int32)) := F2.other W_2 (Or.inr (slot_ne (Or.inr (own_w hw 21 rfl)) (Or.inr (own_w hw 20 rfl)) (by decide) (t := .byte) (t' := (.array .byte)) (by decide) (by decide)))
  have F_4 : Fld Z h_2 a1 "java/lang/String" "value" "[B" (.ref a2) := F1.same W_2
  have N_2 := Fr.snoc X_2 N0 g1
  refine own_via st_2 ?_
  show own_Go p e below _ (T_2.setTop (mkF m 9 #[.val (.ref a1), .val (.ref a2), .val (.int (0 : Int32))] []))
  refine own_via (fun _ => XS.aloadN X_2.here hx rfl (hb hby d11_9) rfl rfl) ?_
  show own_Go p e below _ (T_2.setTop (mkF m 10 #[.val (.ref a1), .val (.ref a2), .val (.int (0 : Int32))] [(.ref a1)]))
  refine own_via (fun _ => XS.iloadN X_2.here hx rfl (hb hby d11_10) rfl) ?_
  show own_Go p e below _ (T_2.setTop (mkF m 11 #[.val (.ref a1), .val (.ref a2), .val (.int (0 : Int32))] [(.int (0 : Int32)), (.ref a1)]))
  have K_5 : Keep h0 h_2 [a1] := Keep.wr (ws := [a1]) (own_keep_mono (Keep.refl h0 []) (by simp)) W_2 (Or.inl (List.mem_of_getElem? (i := 0) rfl))
  obtain ⟨T_6, h_6, X_6, e_6, W_6, st_6⟩ := putFN X_2 hx hZ hown (own_w hw 25 rfl) Via.refl e_2 F_3 (E1.keep K_5) (Or.inr ⟨(own_w hw 21 rfl), rfl, hnm⟩) (own_w hw 5 rfl) (ty := .byte) (v' := (.int (0 : Int32))) (by decide) rfl rfl (g := (mkF m 11 #[.val (.ref a1), .val (.ref a2), .val (.int (0 : Int32))] [(.int (0 : Int32)), (.ref a1)])) rfl rfl (hb hby d11_11)
  have F_7 : Fld Z h_6 a1 "java/lang/String" "value" "[B" (.ref a2) := F_4.other W_6 (Or.inr (slot_ne (Or.inr (own_w hw 20 rfl)) (Or.inr (own_w hw 21 rfl)) (by decide) (t := (.array .byte)) (t' := .byte) (by decide) (by decide)))
  have F_8 : Fld Z h_6 a1 "java/lang/String" "coder" "B" (.int (0 : Int32)) := F_3.same W_6
  have N_6 := Fr.snoc X_6 N_2 g1
  refine own_via st_6 ?_
  show own_Go p e below _ (T_6.setTop (mkF m 14 #[.val (.ref a1), .val (.ref a2), .val (.int (0 : Int32))] []))
  have K_9 : Keep h0 h_6 [a1] := Keep.wr (ws := [a1]) K_5 W_6 (Or.inl (List.mem_of_getElem? (i := 0) rfl))
  exact own_ret0 X_6 Bd.notSynchronized hx Bd.returns (hb hby d11_14) (by decide) (by decide) (by rw [e_6]; exact ⟨rfl, N_6, K_9, F_7, F_8⟩)
theorem d8_0 : decode jdk_42_method_139_code 0 = .ok (.getstatic 38, 3) := by decide +kernel
theorem d8_3 : decode jdk_42_method_139_code 3 = .ok (.ifCond .eq 23, 3) := by decide +kernel
theorem d8_6 : decode jdk_42_method_139_code 6 = .ok (.iload_n 0, 1) := by decide +kernel
theorem d8_7 : decode jdk_42_method_139_code 7 = .ok (.invokestatic 1015, 3) := by decide +kernel
theorem d8_10 : decode jdk_42_method_139_code 10 = .ok (.ifCond .eq 16, 3) := by decide +kernel
theorem d8_13 : decode jdk_42_method_139_code 13 = .ok (.new 10, 3) := by decide +kernel
theorem d8_16 : decode jdk_42_method_139_code 16 = .ok (.dup, 1) := by decide +kernel
theorem d8_17 : decode jdk_42_method_139_code 17 = .ok (.iload_n 0, 1) := by decide +kernel
theorem d8_18 : decode jdk_42_method_139_code 18 = .ok (.invokestatic 1018, 3) := by decide +kernel
theorem d8_21 : decode jdk_42_method_139_code 21 = .ok (.iconst 0, 1) := by decide +kernel
theorem d8_22 : decode jdk_42_method_139_code 22 = .ok (.invokespecial 209, 3) := by decide +kernel
theorem d8_25 : decode jdk_42_method_139_code 25 = .ok (.areturn, 1) := by decide +kernel
theorem d8_26 : decode jdk_42_method_139_code 26 = .ok (.new 10, 3) := by decide +kernel
theorem d8_29 : decode jdk_42_method_139_code 29 = .ok (.dup, 1) := by decide +kernel
theorem d8_30 : decode jdk_42_method_139_code 30 = .ok (.iload_n 0, 1) := by decide +kernel
theorem d8_31 : decode jdk_42_method_139_code 31 = .ok (.invokestatic 1021, 3) := by decide +kernel
theorem d8_34 : decode jdk_42_method_139_code 34 = .ok (.iconst 1, 1) := by decide +kernel
theorem d8_35 : decode jdk_42_method_139_code 35 = .ok (.invokespecial 209, 3) := by decide +kernel
theorem d8_38 : decode jdk_42_method_139_code 38 = .ok (.areturn, 1) := by decide +kernel
theorem pd_1 : parseMethodDescriptor "(C)Z" = some ⟨[.char], some .boolean⟩ := by decide +kernel
theorem pd_2 : parseMethodDescriptor "(C)[B" = some ⟨[.char], some (.array .byte)⟩ := by decide +kernel
theorem pd_3 : parseMethodDescriptor "([BB)V" = some ⟨[(.array .byte), .byte], none⟩ := by decide +kernel
theorem ef_valueOf (m : MethodId) (p1 : Int32) : entryFrame m #[(.int p1)] 1 = mkF m 0 #[.val (.int p1)] [] := by first | (simp [entryFrame, mkF, argsToLocals, Value.category]; done) | rfl
def QvalueOf (Z : State) (p1 : Int32) (cs : Int32) (h0 : Heap) (n0 : Nat) (v : Option Value) (h : Heap) (L : List Loc) : Prop := ∃ r : Addr, ∃ t : Addr, ∃ k : ClassId, v = some (.ref r) ∧ Fr n0 L ∧ Keep h0 h [] ∧ (h0.size ≤ r) ∧ (Exa Z h r "java/lang/String") ∧ (Fld Z h r "java/lang/String" "coder" "B" (.int (0 : Int32))) ∧ (Fld Z h r "java/lang/String" "value" "[B" (.ref t)) ∧ (h0.size ≤ t) ∧ (Arv Z h t k .byte (1 : Int32) [(.int (nar .byte (p1.toInt8.toInt32)))] (.int (0 : Int32)))
set_option maxRecDepth 65536 in
set_option maxHeartbeats 40000000 in
theorem rmvalueOf (l : Launch) (Z : State) (a0 : Array Value) (hw : ∀ d ∈ tables_1, d.before a0 Z = true) (ws : List Jvm.Cond) (p1 : Int32) (cs : Int32) (h0 : Heap) (n0 : Nat) (Z0 : n0 ≤ h0.size) (O0 : Old Z n0 h0) (Scs : Sta Z Z.heap "java/lang/String" "COMPACT_STRINGS" "Z" (.int cs)) (hcs : ¬ (cs = (0 : Int32))) (hp : ¬ ((255 : Int32) < p1)) :
    MetFree l (⟨"java/lang/String", "valueOf", "(C)Ljava/lang/String;"⟩ : MethodName) (head1 (Jvm.Cond.code (⟨"java/lang/String", "valueOf", "(C)Ljava/lang/String;"⟩ : MethodName) jdk_42_method_139_code 1 (some (.object "java/lang/String")) :: ws) ({ frames := 2, cells := 2, slots := 5, locals := 27 } : Room)) (fun a U => a = #[(.int p1)] ∧ Z.Warmed39 U.vm ∧ U.heap = h0) (fun _ _ _ _ _ => True) (fun _ U o U' => ∃ v L, o = .returned v ∧ QvalueOf Z p1 cs h0 n0 v U'.heap L ∧ FrameEnd U o U' L ({ frames := 2, cells := 2, slots := 5, locals := 27 } : Room).cells ({ frames := 2, cells := 2, slots := 5, locals := 27 } : Room).slots) := by
  refine MetFree.of_bodySF (plainFor_of_name pn_java_lang_String) hisR ?_
  intro p e s m args below meth c s₁ Bd hml0 hP hK
  obtain ⟨rfl, hZ, hH0⟩ := hP
  have hx := Bd.exec
  have hby := Bd.bytes
  have hml : c.maxLocals = 1 := hml0
  have hown : s.vm.findClass "java/lang/String" = some m.cls := findClass_of_methodNamed Bd.named
  have hnm := (name_of_methodNamed Bd.named Bd.method).1
  have X0 : Stand p l e ({ frames := 2, cells := 2, slots := 5, locals := 27 } : Room) s m #[(.int p1)] below meth c s₁ [] 0 0 := Stand.of_body Bd
  have e0 : s₁.heap = h0 := by rw [← hH0, Bd.state]; rfl
  have N0 := Fr.nil n0
  refine own_cast (ef_valueOf m p1) ?_
  show own_Go p e below (fun o U' => ∃ v L, o = .returned v ∧ QvalueOf Z p1 cs h0 n0 v U'.heap L ∧ FrameEnd s o U' L ({ frames := 2, cells := 2, slots := 5, locals := 27 } : Room).cells ({ frames := 2, cells := 2, slots := 5, locals := 27 } : Room).slots) (s₁.setTop (mkF m 0 #[.val (.int p1)] []))
  obtain ⟨T_1, X_1, e_1, st_1⟩ := getS2 X0 hx hZ hown (host := "") (Or.inl (own_w hw 54 rfl)) Via.refl e0 (Scs.ext O0.2) (g := (mkF m 0 #[.val (.int p1)] [])) rfl (hb hby d8_0)
  refine own_via st_1 ?_
  show own_Go p e below _ (T_1.setTop (mkF m 3 #[.val (.int p1)] [(.int cs)]))
  refine own_via (fun _ => XS.ifNo X_1.here hx rfl (hb hby d8_3) rfl ((if0 _ _).trans (feq (hcs : ¬ (cs = (0 : Int32)))).1)) ?_
  show own_Go p e below _ (T_1.setTop (mkF m 6 #[.val (.int p1)] []))
  refine own_via (fun _ => XS.iloadN X_1.here hx rfl (hb hby d8_6) rfl) ?_
  show own_Go p e below _ (T_1.setTop (mkF m 7 #[.val (.int p1)] [(.int p1)]))
  obtain ⟨_, _, ⟨T_2, L_2, k_2, n_2⟩, -, X_2, ⟨Lc_2, hQ_2, l_2, y_2, z_2⟩, st_2⟩ := Jvm.LawKit.callS X_1 hx (y := (⟨"java/lang/StringLatin1", "canEncode", "(C)Z"⟩ : MethodName)) hown (mvT hZ (own_w hw 55 rfl)) (mvT hZ (own_w hw 56 rfl)) (mvT hZ (own_w hw 57 rfl)) (mvT hZ (own_w hw 58 rfl)) (by decide) (backOf (W := 0) (rmcanEncode l Z a0 hw [] p1 h0 n0 Z0 hp) hZ (own_w hw 58 rfl) (own_w hw 57 rfl) (by decide) (by decide)) (g := (mkF m 7 #[.val (.int p1)] [(.int p1)])) rfl (by rw [hml]; rfl) (argsL := [(.int p1)]) (rest := []) (lenOf pd_1 rfl) rfl (by show 2 * 0 + _ ≤ _; exact Nat.le_of_eq rfl) (hb hby d8_7) (fun _ _ => ⟨rfl, e_1, (by decide : 0 + 0 ≤ _), (by decide : 0 + 0 ≤ _)⟩)
  dsimp only [Pt.U, Pt.locs, Pt.cells, Pt.slots] at X_2 l_2 y_2 z_2 st_2 hQ_2
  subst l_2 y_2 z_2
  obtain ⟨rfl, Nq_2, K_2q⟩ := hQ_2
  have N_2 := Fr.app N0 Nq_2
  refine own_via st_2 ?_
  show own_Go p e below _ (T_2.setTop (mkF m 10 #[.val (.int p1)] [(.int (1 : Int32))]))
  refine own_via (fun _ => XS.ifNo X_2.here hx rfl (hb hby d8_10) rfl ((if0 _ _).trans (feq ((by decide) : ¬ ((1 : Int32) = (0 : Int32)))).1)) ?_
  show own_Go p e below _ (T_2.setTop (mkF m 13 #[.val (.int p1)] []))
  obtain ⟨T_3, h_3, X_3, e_3, E_3, A_3, D_3, -, st_3⟩ := newO X_2 hx hZ hown (own_w hw 59 rfl) (own_w hw 5 rfl) (own_w hw 6 rfl) rfl (g := (mkF m 13 #[.val (.int p1)] [])) rfl (hb hby d8_13) (by decide) (by decide)
  obtain ⟨b_3, g_3⟩ : ∃ z, z = T_2.heap.size := ⟨_, rfl⟩
  rw [← g_3] at A_3 D_3 st_3
  have F_4 : Fld Z h_3 b_3 "java/lang/String" "value" "[B" .null := D_3 (Or.inr (own_w hw 20 rfl)) (ty := (.array .byte)) (by decide)
  have F_5 : Fld Z h_3 b_3 "java/lang/String" "coder" "B" (.int (0 : Int32)) := D_3 (Or.inr (own_w hw 21 rfl)) (ty := .byte) (by decide)
  refine own_via st_3 ?_
  show own_Go p e below _ (T_3.setTop (mkF m 16 #[.val (.int p1)] [(.ref b_3)]))
  refine own_via (fun _ => XS.dup X_3.here hx rfl (hb hby d8_16) rfl rfl) ?_
  show own_Go p e below _ (T_3.setTop (mkF m 17 #[.val (.int p1)] [(.ref b_3), (.ref b_3)]))
  refine own_via (fun _ => XS.iloadN X_3.here hx rfl (hb hby d8_17) rfl) ?_
  show own_Go p e below _ (T_3.setTop (mkF m 18 #[.val (.int p1)] [(.int p1), (.ref b_3), (.ref b_3)]))
  have K_6 : Keep h0 T_2.heap [] := Keep.trans (ws := []) (Keep.refl h0 []) K_2q all0
  have K_7 : Keep h0 h_3 [] := K_6.ext E_3
  obtain ⟨_, _, ⟨T_8, L_8, k_8, n_8⟩, -, X_8, ⟨Lc_8, hQ_8, l_8, y_8, z_8⟩, st_8⟩ := Jvm.LawKit.callS X_3 hx (y := (⟨"java/lang/StringLatin1", "toBytes", "(C)[B"⟩ : MethodName)) hown (mvT hZ (own_w hw 60 rfl)) (mvT hZ (own_w hw 61 rfl)) (mvT hZ (own_w hw 57 rfl)) (mvT hZ (own_w hw 62 rfl)) (by decide) (backOf (W := 2) (rmtoBytes l Z a0 hw [] p1 h_3 n0 (Nat.le_trans Z0 K_7.1) ) hZ (own_w hw 62 rfl) (own_w hw 57 rfl) (by decide) (by decide)) (g := (mkF m 18 #[.val (.int p1)] [(.int p1), (.ref b_3), (.ref b_3)])) rfl (by rw [hml]; rfl) (argsL := [(.int p1)]) (rest := [(.ref b_3), (.ref b_3)]) (lenOf pd_2 rfl) rfl (by show 2 * 0 + _ ≤ _; exact Nat.le_of_eq rfl) (hb hby d8_18) (fun _ _ => ⟨rfl, e_3, (by decide : 1 + 1 ≤ _), (by decide : 4 + 1 ≤ _)⟩)
  dsimp only [Pt.U, Pt.locs, Pt.cells, Pt.slots] at X_8 l_8 y_8 z_8 st_8 hQ_8
  subst l_8 y_8 z_8
  obtain ⟨r_9, u_10, rfl, Nq_8, K_8q, q_8_0, q_8_1⟩ := hQ_8
  have N_8 := Fr.app N_2 Nq_8
  refine own_via st_8 ?_
  show own_Go p e below _ (T_8.setTop (mkF m 21 #[.val (.int p1)] [(.ref r_9), (.ref b_3), (.ref b_3)]))
  refine own_via (fun _ => XS.iconst X_8.here hx rfl (hb hby d8_21)) ?_
  show own_Go p e below _ (T_8.setTop (mkF m 22 #[.val (.int p1)] [(.int (0 : Int32)), (.ref r_9), (.ref b_3), (.ref b_3)]))
  have K_11 : Keep h_3 T_8.heap [] := Keep.trans (ws := []) (Keep.refl h_3 []) K_8q all0
  have K_12 : Keep h0 T_8.heap [] := Keep.trans (ws := []) K_7 K_8q all0
  obtain ⟨_, _, ⟨T_13, L_13, k_13, n_13⟩, -, X_13, ⟨Lc_13, hQ_13, l_13, y_13, z_13⟩, st_13⟩ := X_8.specialBack hx (y := (⟨"java/lang/String", "<init>", "([BB)V"⟩ : MethodName)) rfl hown (mvT hZ (own_w hw 63 rfl)) (mvT hZ (own_w hw 64 rfl)) (mvT hZ (own_w hw 65 rfl)) (by decide) (backOf (W := 1) (rmstrBB l Z a0 hw [] b_3 r_9 T_8.heap n0 (Nat.le_trans Z0 K_12.1) (A_3.keep K_11) (F_4.keep K_11 nin0) (F_5.keep K_11 nin0) (Nat.le_trans Z0 (Nat.le_trans K_6.1 (Nat.le_of_eq g_3.symm)))) hZ (own_w hw 65 rfl) (own_w hw 6 rfl) (by decide) (by decide)) (g := (mkF m 22 #[.val (.int p1)] [(.int (0 : Int32)), (.ref r_9), (.ref b_3), (.ref b_3)])) rfl (by rw [hml]; rfl) (Steps.refl _) (a := b_3) (argsL := [(.ref r_9), (.int (0 : Int32))]) (rest := [(.ref b_3)]) (lenOf pd_3 rfl) rfl (by show 2 * 0 + _ ≤ _; exact Nat.le_of_eq rfl) (hb hby d8_22) (fun _ _ => ⟨rfl, rfl, (by decide : 2 + 0 ≤ _), (by decide : 5 + 0 ≤ _)⟩)
  dsimp only [Pt.U, Pt.locs, Pt.cells, Pt.slots] at X_13 l_13 y_13 z_13 st_13 hQ_13
  subst l_13 y_13 z_13
  obtain ⟨rfl, Nq_13, K_13q, q_13_0, q_13_1⟩ := hQ_13
  have N_13 := Fr.app N_8 Nq_13
  refine own_via (fun _ k => st_13.trans k) ?_
  show own_Go p e below _ (T_13.setTop (mkF m 25 #[.val (.int p1)] [(.ref b_3)]))
  have K_14 : Keep h_3 T_13.heap [b_3] := Keep.trans (ws := [b_3]) (own_keep_mono K_11 (by simp)) K_13q (allS (Or.inl (List.mem_of_getElem? (i := 0) rfl)) all0)
  have K_15 : Keep T_8.heap T_13.heap [b_3] := Keep.trans (ws := [b_3]) (own_keep_mono (Keep.refl T_8.heap []) (by simp)) K_13q (allS (Or.inl (List.mem_of_getElem? (i := 0) rfl)) all0)
  have K_16 : Keep h0 T_13.heap [] := Keep.trans (ws := []) K_12 K_13q (allS (Or.inr (Nat.le_trans K_6.1 (Nat.le_of_eq g_3.symm))) all0)
  exact own_retv X_13 Bd.notSynchronized hx Bd.returns rfl (Or.inr (Or.inr (Or.inr (Or.inr ⟨rfl, rfl, rfl⟩)))) (hb hby d8_25) (by decide) (by decide) ⟨b_3, r_9, u_10, rfl, N_13, K_16, (Nat.le_trans K_6.1 (Nat.le_of_eq g_3.symm)), (A_3.keep K_14), q_13_1, q_13_0, (Nat.le_trans K_7.1 q_8_0), (q_8_1.keep K_15 (ninS (Ne.symm (Nat.ne_of_lt (Nat.lt_of_lt_of_le A_3.lt q_8_0))) nin0))⟩
theorem d3_0 : decode jdk_42_method_149_code 0 = .ok (.aload_n 0, 1) := by decide +kernel
theorem d3_1 : decode jdk_42_method_149_code 1 = .ok (.invokespecial 1, 3) := by decide +kernel
theorem d3_4 : decode jdk_42_method_149_code 4 = .ok (.iload_n 3, 1) := by decide +kernel
theorem d3_5 : decode jdk_42_method_149_code 5 = .ok (.ifCond .ne 22, 3) := by decide +kernel
theorem d3_8 : decode jdk_42_method_149_code 8 = .ok (.aload_n 0, 1) := by decide +kernel
theorem d3_9 : decode jdk_42_method_149_code 9 = .ok (.ldc 7, 2) := by decide +kernel
theorem d3_11 : decode jdk_42_method_149_code 11 = .ok (.getfield 9, 3) := by decide +kernel
theorem d3_14 : decode jdk_42_method_149_code 14 = .ok (.putfield 9, 3) := by decide +kernel
theorem d3_17 : decode jdk_42_method_149_code 17 = .ok (.aload_n 0, 1) := by decide +kernel
theorem d3_18 : decode jdk_42_method_149_code 18 = .ok (.ldc 7, 2) := by decide +kernel
theorem d3_20 : decode jdk_42_method_149_code 20 = .ok (.getfield 15, 3) := by decide +kernel
theorem d3_23 : decode jdk_42_method_149_code 23 = .ok (.putfield 15, 3) := by decide +kernel
theorem d3_26 : decode jdk_42_method_149_code 26 = .ok (.return_, 1) := by decide +kernel
theorem d3_27 : decode jdk_42_method_149_code 27 = .ok (.getstatic 38, 3) := by decide +kernel
theorem d3_30 : decode jdk_42_method_149_code 30 = .ok (.ifCond .eq 28, 3) := by decide +kernel
theorem d3_33 : decode jdk_42_method_149_code 33 = .ok (.aload_n 1, 1) := by decide +kernel
theorem d3_34 : decode jdk_42_method_149_code 34 = .ok (.iload_n 2, 1) := by decide +kernel
theorem d3_35 : decode jdk_42_method_149_code 35 = .ok (.iload_n 3, 1) := by decide +kernel
theorem d3_36 : decode jdk_42_method_149_code 36 = .ok (.invokestatic 177, 3) := by decide +kernel
theorem d3_39 : decode jdk_42_method_149_code 39 = .ok (.astore 5, 2) := by decide +kernel
theorem d3_41 : decode jdk_42_method_149_code 41 = .ok (.aload_n 0, 1) := by decide +kernel
theorem d3_42 : decode jdk_42_method_149_code 42 = .ok (.aload 5, 2) := by decide +kernel
theorem d3_44 : decode jdk_42_method_149_code 44 = .ok (.iload_n 3, 1) := by decide +kernel
theorem d3_45 : decode jdk_42_method_149_code 45 = .ok (.invokestatic 47, 3) := by decide +kernel
theorem d3_48 : decode jdk_42_method_149_code 48 = .ok (.putfield 15, 3) := by decide +kernel
theorem d3_51 : decode jdk_42_method_149_code 51 = .ok (.aload_n 0, 1) := by decide +kernel
theorem d3_52 : decode jdk_42_method_149_code 52 = .ok (.aload 5, 2) := by decide +kernel
theorem d3_54 : decode jdk_42_method_149_code 54 = .ok (.putfield 9, 3) := by decide +kernel
theorem d3_57 : decode jdk_42_method_149_code 57 = .ok (.return_, 1) := by decide +kernel
theorem d3_58 : decode jdk_42_method_149_code 58 = .ok (.aload_n 0, 1) := by decide +kernel
theorem d3_59 : decode jdk_42_method_149_code 59 = .ok (.iconst 1, 1) := by decide +kernel
theorem d3_60 : decode jdk_42_method_149_code 60 = .ok (.putfield 15, 3) := by decide +kernel
theorem d3_63 : decode jdk_42_method_149_code 63 = .ok (.aload_n 0, 1) := by decide +kernel
theorem d3_64 : decode jdk_42_method_149_code 64 = .ok (.aload_n 1, 1) := by decide +kernel
theorem d3_65 : decode jdk_42_method_149_code 65 = .ok (.iload_n 2, 1) := by decide +kernel
theorem d3_66 : decode jdk_42_method_149_code 66 = .ok (.iload_n 3, 1) := by decide +kernel
theorem d3_67 : decode jdk_42_method_149_code 67 = .ok (.invokestatic 180, 3) := by decide +kernel
theorem d3_70 : decode jdk_42_method_149_code 70 = .ok (.putfield 9, 3) := by decide +kernel
theorem d3_73 : decode jdk_42_method_149_code 73 = .ok (.return_, 1) := by decide +kernel
theorem ef_strV0 (m : MethodId) (a1 : Addr) (a2 : Addr) : entryFrame m #[(.ref a1), (.ref a2), (.int (0 : Int32)), (.int (0 : Int32)), .null] 6 = mkF m 0 #[.val (.ref a1), .val (.ref a2), .val (.int (0 : Int32)), .val (.int (0 : Int32)), .val .null, .unset] [] := by first | (simp [entryFrame, mkF, argsToLocals, Value.category]; done) | rfl
def QstrV0 (Z : State) (a1 : Addr) (a2 : Addr) (h0 : Heap) (n0 : Nat) (v : Option Value) (h : Heap) (L : List Loc) (vm : Vm) : Prop := v = none ∧ Fr n0 L ∧ Keep h0 h [a1] ∧ (own_Str Z h a1 []) ∧ (CHv Z consts_1 vm h)
set_option maxRecDepth 65536 in
set_option maxHeartbeats 40000000 in
theorem rmstrV0 (l : Launch) (Z : State) (a0 : Array Value) (hw : ∀ d ∈ tables_1, d.before a0 Z = true) (ws : List Jvm.Cond) (a1 : Addr) (a2 : Addr) (h0 : Heap) (n0 : Nat) (Z0 : n0 ≤ h0.size) (O0 : Old Z n0 h0) (E1 : Exa Z h0 a1 "java/lang/String") (F1 : Fld Z h0 a1 "java/lang/String" "value" "[B" .null) (F2 : Fld Z h0 a1 "java/lang/String" "coder" "B" (.int (0 : Int32))) (g1 : n0 ≤ a1) :
    MetFree l (⟨"java/lang/String", "<init>", "([CIILjava/lang/Void;)V"⟩ : MethodName) (head1 (Jvm.Cond.code (⟨"java/lang/String", "<init>", "([CIILjava/lang/Void;)V"⟩ : MethodName) jdk_42_method_149_code 6 none :: ws) ({ frames := 1, cells := 2, slots := 4, locals := 12 } : Room)) (fun a U => a = #[(.ref a1), (.ref a2), (.int (0 : Int32)), (.int (0 : Int32)), .null] ∧ Z.Warmed39 U.vm ∧ U.heap = h0 ∧ CHv Z consts_1 U.vm h0 ∧ Safe Z consts_1 U.vm h0 a1) (fun _ _ _ _ _ => True) (fun _ U o U' => ∃ v L, o = .returned v ∧ QstrV0 Z a1 a2 h0 n0 v U'.heap L U'.vm ∧ ReturnedEndW U o U' L ({ frames := 1, cells := 2, slots := 4, locals := 12 } : Room).cells ({ frames := 1, cells := 2, slots := 4, locals := 12 } : Room).slots) := by
  refine MetFree.of_bodySF (plainFor_of_name pn_java_lang_String) hisR ?_
  intro p e s m args below meth c s₁ Bd hml0 hP hK
  obtain ⟨rfl, hZ, hH0, J0⟩ := hP
  have hx := Bd.exec
  have hby := Bd.bytes
  have hml : c.maxLocals = 6 := hml0
  have hown : s.vm.findClass "java/lang/String" = some m.cls := findClass_of_methodNamed Bd.named
  have hnm := (name_of_methodNamed Bd.named Bd.method).1
  have X0 : Stand p l e ({ frames := 1, cells := 2, slots := 4, locals := 12 } : Room) (s.setVm s.vm) m #[(.ref a1), (.ref a2), (.int (0 : Int32)), (.int (0 : Int32)), .null] below meth c s₁ [] 0 0 := Stand.of_body Bd
  have hS0 : s.Since s.vm 0 := (State.WarmedH.refl s).since 0
  have e0 : s₁.heap = h0 := by rw [← hH0, Bd.state]; rfl
  have N0 := Fr.nil n0
  refine own_cast (ef_strV0 m a1 a2) ?_
  show own_Go p e below (fun o U' => ∃ v L, o = .returned v ∧ QstrV0 Z a1 a2 h0 n0 v U'.heap L U'.vm ∧ ReturnedEndW s o U' L ({ frames := 1, cells := 2, slots := 4, locals := 12 } : Room).cells ({ frames := 1, cells := 2, slots := 4, locals := 12 } : Room).slots) (s₁.setTop (mkF m 0 #[.val (.ref a1), .val (.ref a2), .val (.int (0 : Int32)), .val (.int (0 : Int32)), .val .null, .unset] []))
  obtain ⟨J0, sf_a1⟩ := J0
  refine own_via (fun _ => XS.aloadN X0.here hx rfl (hb hby d3_0) rfl rfl) ?_
  show own_Go p e below _ (s₁.setTop (mkF m 1 #[.val (.ref a1), .val (.ref a2), .val (.int (0 : Int32)), .val (.int (0 : Int32)), .val .null, .unset] [(.ref a1)]))
  obtain ⟨T_1, X_1, e_1, st_1⟩ := initO X0 hx hZ hown (own_w hw 15 rfl) (own_w hw 16 rfl) (own_w hw 17 rfl) e0 (g := (mkF m 1 #[.val (.ref a1), .val (.ref a2), .val (.int (0 : Int32)), .val (.int (0 : Int32)), .val .null, .unset] [(.ref a1)])) rfl (by rw [hml]; rfl) rfl (hb hby d3_1) (by decide) (W := 0) (by show 2 * 0 + _ ≤ _; exact Nat.le_of_eq rfl) (by decide)
  refine own_via st_1 ?_
  show own_Go p e below _ (T_1.setTop (mkF m 4 #[.val (.ref a1), .val (.ref a2), .val (.int (0 : Int32)), .val (.int (0 : Int32)), .val .null, .unset] []))
  refine own_via (fun _ => XS.iloadN X_1.here hx rfl (hb hby d3_4) rfl) ?_
  show own_Go p e below _ (T_1.setTop (mkF m 5 #[.val (.ref a1), .val (.ref a2), .val (.int (0 : Int32)), .val (.int (0 : Int32)), .val .null, .unset] [(.int (0 : Int32))]))
  refine own_via (fun _ => XS.ifNo X_1.here hx rfl (hb hby d3_5) rfl ((if0 _ _).trans (teq ((by decide) : (0 : Int32) = (0 : Int32))).2)) ?_
  show own_Go p e below _ (T_1.setTop (mkF m 8 #[.val (.ref a1), .val (.ref a2), .val (.int (0 : Int32)), .val (.int (0 : Int32)), .val .null, .unset] []))
  refine own_via (fun _ => XS.aloadN X_1.here hx rfl (hb hby d3_8) rfl rfl) ?_
  show own_Go p e below _ (T_1.setTop (mkF m 9 #[.val (.ref a1), .val (.ref a2), .val (.int (0 : Int32)), .val (.int (0 : Int32)), .val .null, .unset] [(.ref a1)]))
  obtain ⟨a_2, T_2, h_2, k_2, b_2, kk_2, X_2, e_2, E_2, hS_2, hk_2, hZ_2, ho_2, LE_2, LC_2, LV_2, LA_2, la_2, lb_2, CH_2, L_2, sf_2, st_2⟩ := ldcCH X_1 hx hZ hown (own_w hw 18 rfl) (own_wS hw) e_1 hS0 (Nat.zero_le _) (own_EW hw) (by decide) J0 (vs := ((([] : List Int32).map fun c => c.toInt8.toInt32).map Value.int)) (z := Int32.ofNat 0) ⟨by decide, by decide +kernel⟩ (by decide) rfl (g := (mkF m 9 #[.val (.ref a1), .val (.ref a2), .val (.int (0 : Int32)), .val (.int (0 : Int32)), .val .null, .unset] [(.ref a1)])) rfl (hb hby d3_9) (n := 0) (by decide) (by decide) (by decide) (by decide)
  have J_2 := CH_2.1
  have sf_2_a1 := CH_2.safe E1.lt sf_a1
  obtain ⟨nea_2_a1, neb_2_a1⟩ := sf_2 _ sf_2_a1
  refine own_via st_2 ?_
  show own_Go p e below _ (T_2.setTop (mkF m 11 #[.val (.ref a1), .val (.ref a2), .val (.int (0 : Int32)), .val (.int (0 : Int32)), .val .null, .unset] [(.ref a_2), (.ref a1)]))
  obtain ⟨T_3, X_3, e_3, st_3⟩ := getF X_2 hx hZ_2 ho_2 (host := "") (Or.inl (own_w hw 24 rfl)) Via.refl e_2 LV_2 (g := (mkF m 11 #[.val (.ref a1), .val (.ref a2), .val (.int (0 : Int32)), .val (.int (0 : Int32)), .val .null, .unset] [(.ref a_2), (.ref a1)])) rfl rfl (hb hby d3_11)
  refine own_via st_3 ?_
  show own_Go p e below _ (T_3.setTop (mkF m 14 #[.val (.ref a1), .val (.ref a2), .val (.int (0 : Int32)), .val (.int (0 : Int32)), .val .null, .unset] [(.ref b_2), (.ref a1)]))
  have K_4 : Keep h0 h_2 [] := (Keep.refl h0 []).ext E_2
  obtain ⟨T_5, h_5, X_5, e_5, W_5, st_5⟩ := putF X_3 hx hZ_2 ho_2 (host := "") (Or.inl (own_w hw 24 rfl)) Via.refl e_3 (F1.keep K_4 nin0) (E1.keep K_4) (Or.inr ⟨(own_w hw 20 rfl), rfl, hnm⟩) (own_w hw 5 rfl) (ty := (.array .byte)) (by decide) rfl rfl (g := (mkF m 14 #[.val (.ref a1), .val (.ref a2), .val (.int (0 : Int32)), .val (.int (0 : Int32)), .val .null, .unset] [(.ref b_2), (.ref a1)])) rfl rfl (hb hby d3_14)
  have F_6 : Fld Z h_5 a1 "java/lang/String" "coder" "B" (.int (0 : Int32)) := (F2.keep K_4 nin0).other W_5 (Or.inr (slot_ne (Or.inr (own_w hw 21 rfl)) (Or.inr (own_w hw 20 rfl)) (by decide) (t := .byte) (t' := (.array .byte)) (by decide) (by decide)))
  have F_7 : Fld Z h_5 a1 "java/lang/String" "value" "[B" (.ref b_2) := (F1.keep K_4 nin0).same W_5
  have N_5 := Fr.snoc X_5 N0 g1
  refine own_via st_5 ?_
  show own_Go p e below _ (T_5.setTop (mkF m 17 #[.val (.ref a1), .val (.ref a2), .val (.int (0 : Int32)), .val (.int (0 : Int32)), .val .null, .unset] []))
  refine own_via (fun _ => XS.aloadN X_5.here hx rfl (hb hby d3_17) rfl rfl) ?_
  show own_Go p e below _ (T_5.setTop (mkF m 18 #[.val (.ref a1), .val (.ref a2), .val (.int (0 : Int32)), .val (.int (0 : Int32)), .val .null, .unset] [(.ref a1)]))
  refine own_via (ldcAgain X_5 hx hZ_2 ho_2 (own_w hw 18 rfl) L_2 (g := (mkF m 18 #[.val (.ref a1), .val (.ref a2), .val (.int (0 : Int32)), .val (.int (0 : Int32)), .val .null, .unset] [(.ref a1)])) rfl (hb hby d3_18)) ?_
  show own_Go p e below _ (T_5.setTop (mkF m 20 #[.val (.ref a1), .val (.ref a2), .val (.int (0 : Int32)), .val (.int (0 : Int32)), .val .null, .unset] [(.ref a_2), (.ref a1)]))
  have K_8 : Keep h_2 h_5 [a1] := Keep.wr (ws := [a1]) (own_keep_mono (Keep.refl h_2 []) (by simp)) W_5 (Or.inl (List.mem_of_getElem? (i := 0) rfl))
  obtain ⟨T_9, X_9, e_9, st_9⟩ := getF X_5 hx hZ_2 ho_2 (host := "") (Or.inl (own_w hw 25 rfl)) Via.refl e_5 (LC_2.keep K_8 (ninS (Ne.symm nea_2_a1) nin0)) (g := (mkF m 20 #[.val (.ref a1), .val (.ref a2), .val (.int (0 : Int32)), .val (.int (0 : Int32)), .val .null, .unset] [(.ref a_2), (.ref a1)])) rfl rfl (hb hby d3_20)
  refine own_via st_9 ?_
  show own_Go p e below _ (T_9.setTop (mkF m 23 #[.val (.ref a1), .val (.ref a2), .val (.int (0 : Int32)), .val (.int (0 : Int32)), .val .null, .unset] [(.int (0 : Int32)), (.ref a1)]))
  have K_10 : Keep h0 h_5 [a1] := Keep.wr (ws := [a1]) (own_keep_mono K_4 (by simp)) W_5 (Or.inl (List.mem_of_getElem? (i := 0) rfl))
  obtain ⟨T_11, h_11, X_11, e_11, W_11, st_11⟩ := putFN X_9 hx hZ_2 ho_2 (own_w hw 25 rfl) Via.refl e_9 F_6 (E1.keep K_10) (Or.inr ⟨(own_w hw 21 rfl), rfl, hnm⟩) (own_w hw 5 rfl) (ty := .byte) (v' := (.int (0 : Int32))) (by decide) rfl rfl (g := (mkF m 23 #[.val (.ref a1), .val (.ref a2), .val (.int (0 : Int32)), .val (.int (0 : Int32)), .val .null, .unset] [(.int (0 : Int32)), (.ref a1)])) rfl rfl (hb hby d3_23)
  have F_12 : Fld Z h_11 a1 "java/lang/String" "value" "[B" (.ref b_2) := F_7.other W_11 (Or.inr (slot_ne (Or.inr (own_w hw 20 rfl)) (Or.inr (own_w hw 21 rfl)) (by decide) (t := (.array .byte)) (t' := .byte) (by decide) (by decide)))
  have F_13 : Fld Z h_11 a1 "java/lang/String" "coder" "B" (.int (0 : Int32)) := F_6.same W_11
  have N_11 := Fr.snoc X_11 N_5 g1
  refine own_via st_11 ?_
  show own_Go p e below _ (T_11.setTop (mkF m 26 #[.val (.ref a1), .val (.ref a2), .val (.int (0 : Int32)), .val (.int (0 : Int32)), .val .null, .unset] []))
  have K_14 : Keep h0 h_11 [a1] := Keep.wr (ws := [a1]) K_10 W_11 (Or.inl (List.mem_of_getElem? (i := 0) rfl))
  have K_15 : Keep h_2 h_11 [a1] := Keep.wr (ws := [a1]) K_8 W_11 (Or.inl (List.mem_of_getElem? (i := 0) rfl))
  exact own_ret0W X_11 hS_2 (by rw [e_11]; exact (Nat.le_trans hk_2 K_15.1)) Bd.notSynchronized hx Bd.returns (hb hby d3_26) (by decide) (by decide) (by rw [e_11]; exact ⟨rfl, N_11, K_14, ⟨(E1.keep K_14), F_13, ⟨b_2, kk_2, F_12, (LA_2.keep K_15 (ninS (Ne.symm neb_2_a1) nin0))⟩, by decide, by decide⟩, (own_CHstay (J_2.keep K_15 (allS sf_2_a1 all0)) hZ_2 (own_EW hw) X_11.warmed)⟩)
theorem d2_0 : decode jdk_42_method_3_code 0 = .ok (.aload_n 0, 1) := by decide +kernel
theorem d2_1 : decode jdk_42_method_3_code 1 = .ok (.aload_n 1, 1) := by decide +kernel
theorem d2_2 : decode jdk_42_method_3_code 2 = .ok (.iconst 0, 1) := by decide +kernel
theorem d2_3 : decode jdk_42_method_3_code 3 = .ok (.aload_n 1, 1) := by decide +kernel
theorem d2_4 : decode jdk_42_method_3_code 4 = .ok (.arraylength, 1) := by decide +kernel
theorem d2_5 : decode jdk_42_method_3_code 5 = .ok (.aconst_null, 1) := by decide +kernel
theorem d2_6 : decode jdk_42_method_3_code 6 = .ok (.invokespecial 27, 3) := by decide +kernel
theorem d2_9 : decode jdk_42_method_3_code 9 = .ok (.return_, 1) := by decide +kernel
theorem pd_4 : parseMethodDescriptor "([CIILjava/lang/Void;)V" = some ⟨[(.array .char), .int, .int, (.object "java/lang/Void")], none⟩ := by decide +kernel
theorem ef_strC0 (m : MethodId) (a1 : Addr) (a2 : Addr) : entryFrame m #[(.ref a1), (.ref a2)] 2 = mkF m 0 #[.val (.ref a1), .val (.ref a2)] [] := by first | (simp [entryFrame, mkF, argsToLocals, Value.category]; done) | rfl
def QstrC0 (Z : State) (a1 : Addr) (a2 : Addr) (kc : ClassId) (h0 : Heap) (n0 : Nat) (v : Option Value) (h : Heap) (L : List Loc) (vm : Vm) : Prop := v = none ∧ Fr n0 L ∧ Keep h0 h [a1] ∧ (own_Str Z h a1 []) ∧ (CHv Z consts_1 vm h)
set_option maxRecDepth 65536 in
set_option maxHeartbeats 40000000 in
theorem rmstrC0 (l : Launch) (Z : State) (a0 : Array Value) (hw : ∀ d ∈ tables_1, d.before a0 Z = true) (ws : List Jvm.Cond) (a1 : Addr) (a2 : Addr) (kc : ClassId) (h0 : Heap) (n0 : Nat) (Z0 : n0 ≤ h0.size) (O0 : Old Z n0 h0) (E1 : Exa Z h0 a1 "java/lang/String") (F1 : Fld Z h0 a1 "java/lang/String" "value" "[B" .null) (F2 : Fld Z h0 a1 "java/lang/String" "coder" "B" (.int (0 : Int32))) (g1 : n0 ≤ a1) (A2 : Arv Z h0 a2 kc .char (0 : Int32) [] (.int (0 : Int32))) :
    MetFree l (⟨"java/lang/String", "<init>", "([C)V"⟩ : MethodName) (head1 (Jvm.Cond.code (⟨"java/lang/String", "<init>", "([C)V"⟩ : MethodName) jdk_42_method_3_code 2 none :: ws) ({ frames := 2, cells := 2, slots := 4, locals := 29 } : Room)) (fun a U => a = #[(.ref a1), (.ref a2)] ∧ Z.Warmed39 U.vm ∧ U.heap = h0 ∧ CHv Z consts_1 U.vm h0 ∧ Safe Z consts_1 U.vm h0 a1) (fun _ _ _ _ _ => True) (fun _ U o U' => ∃ v L, o = .returned v ∧ QstrC0 Z a1 a2 kc h0 n0 v U'.heap L U'.vm ∧ ReturnedEndW U o U' L ({ frames := 2, cells := 2, slots := 4, locals := 29 } : Room).cells ({ frames := 2, cells := 2, slots := 4, locals := 29 } : Room).slots) := by
  refine MetFree.of_bodySF (plainFor_of_name pn_java_lang_String) hisR ?_
  intro p e s m args below meth c s₁ Bd hml0 hP hK
  obtain ⟨rfl, hZ, hH0, J0⟩ := hP
  have hx := Bd.exec
  have hby := Bd.bytes
  have hml : c.maxLocals = 2 := hml0
  have hown : s.vm.findClass "java/lang/String" = some m.cls := findClass_of_methodNamed Bd.named
  have hnm := (name_of_methodNamed Bd.named Bd.method).1
  have X0 : Stand p l e ({ frames := 2, cells := 2, slots := 4, locals := 29 } : Room) (s.setVm s.vm) m #[(.ref a1), (.ref a2)] below meth c s₁ [] 0 0 := Stand.of_body Bd
  have hS0 : s.Since s.vm 0 := (State.WarmedH.refl s).since 0
  have e0 : s₁.heap = h0 := by rw [← hH0, Bd.state]; rfl
  have N0 := Fr.nil n0
  refine own_cast (ef_strC0 m a1 a2) ?_
  show own_Go p e below (fun o U' => ∃ v L, o = .returned v ∧ QstrC0 Z a1 a2 kc h0 n0 v U'.heap L U'.vm ∧ ReturnedEndW s o U' L ({ frames := 2, cells := 2, slots := 4, locals := 29 } : Room).cells ({ frames := 2, cells := 2, slots := 4, locals := 29 } : Room).slots) (s₁.setTop (mkF m 0 #[.val (.ref a1), .val (.ref a2)] []))
  obtain ⟨J0, sf_a1⟩ := J0
  refine own_via (fun _ => XS.aloadN X0.here hx rfl (hb hby d2_0) rfl rfl) ?_
  show own_Go p e below _ (s₁.setTop (mkF m 1 #[.val (.ref a1), .val (.ref a2)] [(.ref a1)]))
  refine own_via (fun _ => XS.aloadN X0.here hx rfl (hb hby d2_1) rfl rfl) ?_
  show own_Go p e below _ (s₁.setTop (mkF m 2 #[.val (.ref a1), .val (.ref a2)] [(.ref a2), (.ref a1)]))
  refine own_via (fun _ => XS.iconst X0.here hx rfl (hb hby d2_2)) ?_
  show own_Go p e below _ (s₁.setTop (mkF m 3 #[.val (.ref a1), .val (.ref a2)] [(.int (0 : Int32)), (.ref a2), (.ref a1)]))
  refine own_via (fun _ => XS.aloadN X0.here hx rfl (hb hby d2_3) rfl rfl) ?_
  show own_Go p e below _ (s₁.setTop (mkF m 4 #[.val (.ref a1), .val (.ref a2)] [(.ref a2), (.int (0 : Int32)), (.ref a2), (.ref a1)]))
  obtain ⟨cl_1, Ar_1, q_1, S_1, M_1, H_1, G_1⟩ := A2
  refine own_via (X0.arraylength hx (by rw [e0]; exact Ar_1.1) (State.isArrayOf_alike hZ.alike Ar_1.2.1) (g := (mkF m 4 #[.val (.ref a1), .val (.ref a2)] [(.ref a2), (.int (0 : Int32)), (.ref a2), (.ref a1)])) rfl rfl (hb hby d2_4)) ?_
  rw [len_of S_1 M_1]
  show own_Go p e below _ (s₁.setTop (mkF m 5 #[.val (.ref a1), .val (.ref a2)] [(.int (0 : Int32)), (.int (0 : Int32)), (.ref a2), (.ref a1)]))
  refine own_via (fun _ => XS.aconstNull X0.here hx rfl (hb hby d2_5)) ?_
  show own_Go p e below _ (s₁.setTop (mkF m 6 #[.val (.ref a1), .val (.ref a2)] [.null, (.int (0 : Int32)), (.int (0 : Int32)), (.ref a2), (.ref a1)]))
  obtain ⟨_, _, ⟨T_2, L_2, k_2, n_2⟩, -, Xc_2, hSc_2, hgc_2, ⟨Lc_2, hQ_2, l_2, y_2, z_2⟩, st_2⟩ := X0.specialBackS hx (y := (⟨"java/lang/String", "<init>", "([CIILjava/lang/Void;)V"⟩ : MethodName)) rfl hown (mvT hZ (own_w hw 11 rfl)) (mvT hZ (own_w hw 12 rfl)) (mvT hZ (own_w hw 14 rfl)) (by decide) (own_backS (J := fun vm_ => CHv Z consts_1 vm_ h0 ∧ Safe Z consts_1 vm_ h0 a1) (W := 0) (rmstrV0 l Z a0 hw [] a1 a2 h0 n0 Z0 O0 E1 F1 F2 g1) hZ (own_w hw 14 rfl) (own_w hw 6 rfl) (by decide) (by decide)) (g := (mkF m 6 #[.val (.ref a1), .val (.ref a2)] [.null, (.int (0 : Int32)), (.int (0 : Int32)), (.ref a2), (.ref a1)])) rfl (by rw [hml]; rfl) (Steps.refl _) (a := a1) (argsL := [(.ref a2), (.int (0 : Int32)), (.int (0 : Int32)), .null]) (rest := []) (lenOf pd_4 rfl) rfl (by show 2 * 0 + _ ≤ _; exact Nat.le_of_eq rfl) (hb hby d2_6) (fun _ hW1 => ⟨rfl, e0, ⟨(own_CHstay J0 hZ (own_EW hw) hW1), (own_Sfstay J0 hZ (own_EW hw) hW1 E1.lt sf_a1)⟩, (by decide : 0 + 2 ≤ _), (by decide : 0 + 4 ≤ _)⟩)
  dsimp only [Pt.U, Pt.locs, Pt.cells, Pt.slots] at Xc_2 hSc_2 hgc_2 l_2 y_2 z_2 st_2 hQ_2
  subst l_2 y_2 z_2
  obtain ⟨X_2, hS_2, hZ_2, ho_2⟩ := rebS hS0 (by rw [e0]; exact (Nat.zero_le _)) Xc_2 hSc_2 hgc_2 hZ hown
  obtain ⟨rfl, Nq_2, K_2q, q_2_0, J_2⟩ := hQ_2
  have N_2 := Fr.app N0 Nq_2
  refine own_via (fun _ k => st_2.trans k) ?_
  show own_Go p e below _ (T_2.setTop (mkF m 9 #[.val (.ref a1), .val (.ref a2)] []))
  have K_3 : Keep h0 T_2.heap [a1] := Keep.trans (ws := [a1]) (own_keep_mono (Keep.refl h0 []) (by simp)) K_2q (allS (Or.inl (List.mem_of_getElem? (i := 0) rfl)) all0)
  exact own_ret0W X_2 hS_2 (Nat.le_refl _) Bd.notSynchronized hx Bd.returns (hb hby d2_9) (by decide) (by decide) ⟨rfl, N_2, K_3, q_2_0, (own_CHstay J_2 hZ_2 (own_EW hw) X_2.warmed)⟩
theorem d1_0 : decode method_2_code 0 = .ok (.iload_n 0, 1) := by decide +kernel
theorem d1_1 : decode method_2_code 1 = .ok (.iconst 1, 1) := by decide +kernel
theorem d1_2 : decode method_2_code 2 = .ok (.iand, 1) := by decide +kernel
theorem d1_3 : decode method_2_code 3 = .ok (.ifCond .eq 5, 3) := by decide +kernel
theorem d1_6 : decode method_2_code 6 = .ok (.aconst_null, 1) := by decide +kernel
theorem d1_7 : decode method_2_code 7 = .ok (.areturn, 1) := by decide +kernel
theorem d1_8 : decode method_2_code 8 = .ok (.iload_n 0, 1) := by decide +kernel
theorem d1_9 : decode method_2_code 9 = .ok (.iconst 2, 1) := by decide +kernel
theorem d1_10 : decode method_2_code 10 = .ok (.iand, 1) := by decide +kernel
theorem d1_11 : decode method_2_code 11 = .ok (.ifCond .eq 13, 3) := by decide +kernel
theorem d1_14 : decode method_2_code 14 = .ok (.iload_n 1, 1) := by decide +kernel
theorem d1_15 : decode method_2_code 15 = .ok (.sipush 255, 3) := by decide +kernel
theorem d1_18 : decode method_2_code 18 = .ok (.iand, 1) := by decide +kernel
theorem d1_19 : decode method_2_code 19 = .ok (.i2c, 1) := by decide +kernel
theorem d1_20 : decode method_2_code 20 = .ok (.invokestatic 7, 3) := by decide +kernel
theorem d1_23 : decode method_2_code 23 = .ok (.areturn, 1) := by decide +kernel
theorem d1_24 : decode method_2_code 24 = .ok (.new 8, 3) := by decide +kernel
theorem d1_27 : decode method_2_code 27 = .ok (.dup, 1) := by decide +kernel
theorem d1_28 : decode method_2_code 28 = .ok (.iconst 0, 1) := by decide +kernel
theorem d1_29 : decode method_2_code 29 = .ok (.newarray .char, 2) := by decide +kernel
theorem d1_31 : decode method_2_code 31 = .ok (.invokespecial 13, 3) := by decide +kernel
theorem d1_34 : decode method_2_code 34 = .ok (.areturn, 1) := by decide +kernel
theorem pd_5 : parseMethodDescriptor "(C)Ljava/lang/String;" = some ⟨[.char], some (.object "java/lang/String")⟩ := by decide +kernel
theorem pd_6 : parseMethodDescriptor "([C)V" = some ⟨[(.array .char)], none⟩ := by decide +kernel
theorem pn_com_example_keelstone_keelstone_store_FollowUpIsEmptyPinLaw : plainName "com/example/keelstone/keelstone/store/FollowUpIsEmptyPinLaw" = true := by first | (simp [plainName, overriddenIn]; done) | decide +kernel
theorem ef_draw (m : MethodId) (p1 : Int32) (p2 : Int32) : entryFrame m #[(.int p1), (.int p2)] 2 = mkF m 0 #[.val (.int p1), .val (.int p2)] [] := by first | (simp [entryFrame, mkF, argsToLocals, Value.category]; done) | rfl
def Qdraw (Z : State) (p1 : Int32) (p2 : Int32) (cs : Int32) (h0 : Heap) (n0 : Nat) (v : Option Value) (h : Heap) (L : List Loc) (vm : Vm) : Prop := ∃ r : Value, v = some r ∧ Fr n0 L ∧ Keep h0 h [] ∧ (r.isRef = true) ∧ (r = .null ↔ ¬ ((p1 &&& (1 : Int32)) = (0 : Int32))) ∧ (CHv Z consts_1 vm h)
set_option maxRecDepth 65536 in
set_option maxHeartbeats 40000000 in
theorem rmdraw (l : Launch) (Z : State) (a0 : Array Value) (hw : ∀ d ∈ tables_1, d.before a0 Z = true) (ws : List Jvm.Cond) (p1 : Int32) (p2 : Int32) (cs : Int32) (h0 : Heap) (n0 : Nat) (Z0 : n0 ≤ h0.size) (O0 : Old Z n0 h0) (Scs : Sta Z Z.heap "java/lang/String" "COMPACT_STRINGS" "Z" (.int cs)) (hcs : ¬ (cs = (0 : Int32))) :
    MetFree l (⟨"com/example/keelstone/keelstone/store/FollowUpIsEmptyPinLaw", "draw", "(II)Ljava/lang/String;"⟩ : MethodName) (head1 (Jvm.Cond.code (⟨"com/example/keelstone/keelstone/store/FollowUpIsEmptyPinLaw", "draw", "(II)Ljava/lang/String;"⟩ : MethodName) method_2_code 2 (some (.object "java/lang/String")) :: ws) ({ frames := 3, cells := 4, slots := 8, locals := 43 } : Room)) (fun a U => a = #[(.int p1), (.int p2)] ∧ Z.Warmed39 U.vm ∧ U.heap = h0 ∧ CHv Z consts_1 U.vm h0) (fun _ _ _ _ _ => True) (fun _ U o U' => ∃ v L, o = .returned v ∧ Qdraw Z p1 p2 cs h0 n0 v U'.heap L U'.vm ∧ ReturnedEndW U o U' L ({ frames := 3, cells := 4, slots := 8, locals := 43 } : Room).cells ({ frames := 3, cells := 4, slots := 8, locals := 43 } : Room).slots) := by
  refine MetFree.of_bodySF (plainFor_of_name pn_com_example_keelstone_keelstone_store_FollowUpIsEmptyPinLaw) hisR ?_
  intro p e s m args below meth c s₁ Bd hml0 hP hK
  obtain ⟨rfl, hZ, hH0, J0⟩ := hP
  have hx := Bd.exec
  have hby := Bd.bytes
  have hml : c.maxLocals = 2 := hml0
  have hown : s.vm.findClass "com/example/keelstone/keelstone/store/FollowUpIsEmptyPinLaw" = some m.cls := findClass_of_methodNamed Bd.named
  have hnm := (name_of_methodNamed Bd.named Bd.method).1
  have X0 : Stand p l e ({ frames := 3, cells := 4, slots := 8, locals := 43 } : Room) (s.setVm s.vm) m #[(.int p1), (.int p2)] below meth c s₁ [] 0 0 := Stand.of_body Bd
  have hS0 : s.Since s.vm 0 := (State.WarmedH.refl s).since 0
  have e0 : s₁.heap = h0 := by rw [← hH0, Bd.state]; rfl
  have N0 := Fr.nil n0
  refine own_cast (ef_draw m p1 p2) ?_
  show own_Go p e below (fun o U' => ∃ v L, o = .returned v ∧ Qdraw Z p1 p2 cs h0 n0 v U'.heap L U'.vm ∧ ReturnedEndW s o U' L ({ frames := 3, cells := 4, slots := 8, locals := 43 } : Room).cells ({ frames := 3, cells := 4, slots := 8, locals := 43 } : Room).slots) (s₁.setTop (mkF m 0 #[.val (.int p1), .val (.int p2)] []))
  refine own_via (fun _ => XS.iloadN X0.here hx rfl (hb hby d1_0) rfl) ?_
  show own_Go p e below _ (s₁.setTop (mkF m 1 #[.val (.int p1), .val (.int p2)] [(.int p1)]))
  refine own_via (fun _ => XS.iconst X0.here hx rfl (hb hby d1_1)) ?_
  show own_Go p e below _ (s₁.setTop (mkF m 2 #[.val (.int p1), .val (.int p2)] [(.int (1 : Int32)), (.int p1)]))
  refine own_via (fun _ => XS.iand X0.here hx rfl (hb hby d1_2) rfl) ?_
  show own_Go p e below _ (s₁.setTop (mkF m 3 #[.val (.int p1), .val (.int p2)] [(.int (p1 &&& (1 : Int32)))]))
  by_cases h1 : (p1 &&& (1 : Int32)) = (0 : Int32)
  · refine own_via (fun _ => XS.ifYes X0.here hx rfl (pc0 := 3) (pc' := 8) rfl (hb hby d1_3) rfl ((if0 _ _).trans (teq (h1 : (p1 &&& (1 : Int32)) = (0 : Int32))).1) (by decide) (by decide)) ?_
    show own_Go p e below _ (s₁.setTop (mkF m 8 #[.val (.int p1), .val (.int p2)] []))
    refine own_via (fun _ => XS.iloadN X0.here hx rfl (hb hby d1_8) rfl) ?_
    show own_Go p e below _ (s₁.setTop (mkF m 9 #[.val (.int p1), .val (.int p2)] [(.int p1)]))
    refine own_via (fun _ => XS.iconst X0.here hx rfl (hb hby d1_9)) ?_
    show own_Go p e below _ (s₁.setTop (mkF m 10 #[.val (.int p1), .val (.int p2)] [(.int (2 : Int32)), (.int p1)]))
    refine own_via (fun _ => XS.iand X0.here hx rfl (hb hby d1_10) rfl) ?_
    show own_Go p e below _ (s₁.setTop (mkF m 11 #[.val (.int p1), .val (.int p2)] [(.int (p1 &&& (2 : Int32)))]))
    by_cases h2 : (p1 &&& (2 : Int32)) = (0 : Int32)
    · refine own_via (fun _ => XS.ifYes X0.here hx rfl (pc0 := 11) (pc' := 24) rfl (hb hby d1_11) rfl ((if0 _ _).trans (teq (h2 : (p1 &&& (2 : Int32)) = (0 : Int32))).1) (by decide) (by decide)) ?_
      show own_Go p e below _ (s₁.setTop (mkF m 24 #[.val (.int p1), .val (.int p2)] []))
      obtain ⟨T_1, h_1, X_1, e_1, E_1, A_1, D_1, -, st_1⟩ := newO X0 hx hZ hown (own_w hw 4 rfl) (own_w hw 5 rfl) (own_w hw 6 rfl) e0 (g := (mkF m 24 #[.val (.int p1), .val (.int p2)] [])) rfl (hb hby d1_24) (by decide) (by decide)
      obtain ⟨b_1, g_1⟩ : ∃ z, z = h0.size := ⟨_, rfl⟩
      rw [← g_1] at A_1 D_1 st_1
      have F_2 : Fld Z h_1 b_1 "java/lang/String" "value" "[B" .null := D_1 (Or.inr (own_w hw 20 rfl)) (ty := (.array .byte)) (by decide)
      have F_3 : Fld Z h_1 b_1 "java/lang/String" "coder" "B" (.int (0 : Int32)) := D_1 (Or.inr (own_w hw 21 rfl)) (ty := .byte) (by decide)
      refine own_via st_1 ?_
      show own_Go p e below _ (T_1.setTop (mkF m 27 #[.val (.int p1), .val (.int p2)] [(.ref b_1)]))
      refine own_via (fun _ => XS.dup X_1.here hx rfl (hb hby d1_27) rfl rfl) ?_
      show own_Go p e below _ (T_1.setTop (mkF m 28 #[.val (.int p1), .val (.int p2)] [(.ref b_1), (.ref b_1)]))
      refine own_via (fun _ => XS.iconst X_1.here hx rfl (hb hby d1_28)) ?_
      show own_Go p e below _ (T_1.setTop (mkF m 29 #[.val (.int p1), .val (.int p2)] [(.int (0 : Int32)), (.ref b_1), (.ref b_1)]))
      obtain ⟨T_4, h_4, k_4, X_4, e_4, E_4, A_4, st_4⟩ := newP X_1 hx hZ (own_w hw 7 rfl) e_1 (g := (mkF m 29 #[.val (.int p1), .val (.int p2)] [(.int (0 : Int32)), (.ref b_1), (.ref b_1)])) rfl (hb hby d1_29) rfl (by decide) (cap := 0) (by decide) (by decide) (by decide) (by decide)
      obtain ⟨b_4, g_4⟩ : ∃ z, z = h_1.size := ⟨_, rfl⟩
      rw [← g_4] at A_4 st_4
      have V_4 : Arv Z h_4 b_4 k_4 .char (0 : Int32) [] (.int (0 : Int32)) := Arv.new A_4 (by decide)
      refine own_via st_4 ?_
      show own_Go p e below _ (T_4.setTop (mkF m 31 #[.val (.int p1), .val (.int p2)] [(.ref b_4), (.ref b_1), (.ref b_1)]))
      have K_5 : Keep h_1 h_4 [] := (Keep.refl h_1 []).ext E_4
      have K_6 : Keep h0 h_1 [] := (Keep.refl h0 []).ext E_1
      have K_7 : Keep h0 h_4 [] := K_6.ext E_4
      obtain ⟨_, _, ⟨T_8, L_8, k_8, n_8⟩, -, Xc_8, hSc_8, hgc_8, ⟨Lc_8, hQ_8, l_8, y_8, z_8⟩, st_8⟩ := X_4.specialBackS hx (y := (⟨"java/lang/String", "<init>", "([C)V"⟩ : MethodName)) rfl hown (mvT hZ (own_w hw 8 rfl)) (mvT hZ (own_w hw 9 rfl)) (mvT hZ (own_w hw 10 rfl)) (by decide) (own_backS (J := fun vm_ => CHv Z consts_1 vm_ h_4 ∧ Safe Z consts_1 vm_ h_4 b_1) (W := 1) (rmstrC0 l Z a0 hw [] b_1 b_4 k_4 h_4 n0 (Nat.le_trans Z0 K_7.1) (O0.keep K_7 all0) (A_1.keep K_5) (F_2.keep K_5 nin0) (F_3.keep K_5 nin0) (Nat.le_trans Z0 (Nat.le_of_eq g_1.symm)) V_4) hZ (own_w hw 10 rfl) (own_w hw 6 rfl) (by decide) (by decide)) (g := (mkF m 31 #[.val (.int p1), .val (.int p2)] [(.ref b_4), (.ref b_1), (.ref b_1)])) rfl (by rw [hml]; rfl) (Steps.refl _) (a := b_1) (argsL := [(.ref b_4)]) (rest := [(.ref b_1)]) (lenOf pd_6 rfl) rfl (by show 2 * 0 + _ ≤ _; exact Nat.le_of_eq rfl) (hb hby d1_31) (fun _ hW1 => ⟨rfl, e_4, ⟨(own_CHstay (J0.keep K_7 all0) hZ (own_EW hw) hW1), (own_Sfstay (J0.keep K_7 all0) hZ (own_EW hw) hW1 (Nat.lt_of_lt_of_le A_1.lt K_5.1) (Safe.keep K_7 all0 J0 (Safe.new (Nat.le_of_eq g_1.symm))))⟩, (by decide : 2 + 2 ≤ _), (by decide : 4 + 4 ≤ _)⟩)
      dsimp only [Pt.U, Pt.locs, Pt.cells, Pt.slots] at Xc_8 hSc_8 hgc_8 l_8 y_8 z_8 st_8 hQ_8
      subst l_8 y_8 z_8
      obtain ⟨X_8, hS_8, hZ_8, ho_8⟩ := rebS hS0 (by rw [e_4]; exact (Nat.le_trans (Nat.zero_le _) K_7.1)) Xc_8 hSc_8 hgc_8 hZ hown
      obtain ⟨rfl, Nq_8, K_8q, q_8_0, J_8⟩ := hQ_8
      have N_8 := Fr.app N0 Nq_8
      refine own_via (fun _ k => st_8.trans k) ?_
      show own_Go p e below _ (T_8.setTop (mkF m 34 #[.val (.int p1), .val (.int p2)] [(.ref b_1)]))
      have K_9 : Keep h0 T_8.heap [] := Keep.trans (ws := []) K_7 K_8q (allS (Or.inr (Nat.le_of_eq g_1.symm)) all0)
      exact own_retvW X_8 hS_8 (Nat.le_refl _) Bd.notSynchronized hx Bd.returns rfl (Or.inr (Or.inr (Or.inr (Or.inr ⟨rfl, rfl, rfl⟩)))) (hb hby d1_34) (by decide) (by decide) ⟨(.ref b_1), rfl, N_8, K_9, rfl, (by simp [h1]), (own_CHstay J_8 hZ_8 (own_EW hw) X_8.warmed)⟩
    · refine own_via (fun _ => XS.ifNo X0.here hx rfl (hb hby d1_11) rfl ((if0 _ _).trans (feq (h2 : ¬ ((p1 &&& (2 : Int32)) = (0 : Int32)))).1)) ?_
      show own_Go p e below _ (s₁.setTop (mkF m 14 #[.val (.int p1), .val (.int p2)] []))
      refine own_via (fun _ => XS.iloadN X0.here hx rfl (hb hby d1_14) rfl) ?_
      show own_Go p e below _ (s₁.setTop (mkF m 15 #[.val (.int p1), .val (.int p2)] [(.int p2)]))
      refine own_via (fun _ => XS.sipush X0.here hx rfl (hb hby d1_15)) ?_
      show own_Go p e below _ (s₁.setTop (mkF m 18 #[.val (.int p1), .val (.int p2)] [(.int (255 : Int32)), (.int p2)]))
      refine own_via (fun _ => XS.iand X0.here hx rfl (hb hby d1_18) rfl) ?_
      show own_Go p e below _ (s₁.setTop (mkF m 19 #[.val (.int p1), .val (.int p2)] [(.int (p2 &&& (255 : Int32)))]))
      refine own_via (fun _ => XS.i2c X0.here hx rfl (hb hby d1_19) rfl) ?_
      show own_Go p e below _ (s₁.setTop (mkF m 20 #[.val (.int p1), .val (.int p2)] [(.int ((p2 &&& (255 : Int32)).toUInt32.toUInt16.toUInt32.toInt32))]))
      obtain ⟨_, _, ⟨T_10, L_10, k_10, n_10⟩, -, X_10, ⟨Lc_10, hQ_10, l_10, y_10, z_10⟩, st_10⟩ := Jvm.LawKit.callS X0 hx (y := (⟨"java/lang/String", "valueOf", "(C)Ljava/lang/String;"⟩ : MethodName)) hown (mvT hZ (own_w hw 51 rfl)) (mvT hZ (own_w hw 52 rfl)) (mvT hZ (own_w hw 6 rfl)) (mvT hZ (own_w hw 53 rfl)) (by decide) (backOf (W := 0) (rmvalueOf l Z a0 hw [] ((p2 &&& (255 : Int32)).toUInt32.toUInt16.toUInt32.toInt32) cs h0 n0 Z0 O0 Scs hcs (own_byte p2)) hZ (own_w hw 53 rfl) (own_w hw 6 rfl) (by decide) (by decide)) (g := (mkF m 20 #[.val (.int p1), .val (.int p2)] [(.int ((p2 &&& (255 : Int32)).toUInt32.toUInt16.toUInt32.toInt32))])) rfl (by rw [hml]; rfl) (argsL := [(.int ((p2 &&& (255 : Int32)).toUInt32.toUInt16.toUInt32.toInt32))]) (rest := []) (lenOf pd_5 rfl) rfl (by show 2 * 0 + _ ≤ _; exact Nat.le_of_eq rfl) (hb hby d1_20) (fun _ _ => ⟨rfl, e0, (by decide : 0 + 2 ≤ _), (by decide : 0 + 5 ≤ _)⟩)
      dsimp only [Pt.U, Pt.locs, Pt.cells, Pt.slots] at X_10 l_10 y_10 z_10 st_10 hQ_10
      subst l_10 y_10 z_10
      obtain ⟨r_11, r_12, u_13, rfl, Nq_10, K_10q, q_10_0, q_10_1, q_10_2, q_10_3, q_10_4, q_10_5⟩ := hQ_10
      have N_10 := Fr.app N0 Nq_10
      refine own_via st_10 ?_
      show own_Go p e below _ (T_10.setTop (mkF m 23 #[.val (.int p1), .val (.int p2)] [(.ref r_11)]))
      have K_14 : Keep h0 T_10.heap [] := Keep.trans (ws := []) (Keep.refl h0 []) K_10q all0
      exact own_retvW X_10 hS0 (Nat.le_trans (Nat.zero_le _) K_14.1) Bd.notSynchronized hx Bd.returns rfl (Or.inr (Or.inr (Or.inr (Or.inr ⟨rfl, rfl, rfl⟩)))) (hb hby d1_23) (by decide) (by decide) ⟨(.ref r_11), rfl, N_10, K_14, rfl, (by simp [h1]), (own_CHstay (J0.keep K_14 all0) hZ (own_EW hw) X_10.warmed)⟩
  · refine own_via (fun _ => XS.ifNo X0.here hx rfl (hb hby d1_3) rfl ((if0 _ _).trans (feq (h1 : ¬ ((p1 &&& (1 : Int32)) = (0 : Int32)))).1)) ?_
    show own_Go p e below _ (s₁.setTop (mkF m 6 #[.val (.int p1), .val (.int p2)] []))
    refine own_via (fun _ => XS.aconstNull X0.here hx rfl (hb hby d1_6)) ?_
    show own_Go p e below _ (s₁.setTop (mkF m 7 #[.val (.int p1), .val (.int p2)] [.null]))
    exact own_retvW X0 hS0 (by rw [e0]; exact (Nat.zero_le _)) Bd.notSynchronized hx Bd.returns rfl (Or.inr (Or.inr (Or.inr (Or.inr ⟨rfl, rfl, rfl⟩)))) (hb hby d1_7) (by decide) (by decide) (by rw [e0]; exact ⟨.null, rfl, N0, (Keep.refl h0 []), rfl, (by simp [h1]), (own_CHstay J0 hZ (own_EW hw) X0.warmed)⟩)
theorem d6_0 : decode jdk_30_method_1_code 0 = .ok (.aload_n 0, 1) := by decide +kernel
theorem d6_1 : decode jdk_30_method_1_code 1 = .ok (.invokespecial 1, 3) := by decide +kernel
theorem d6_4 : decode jdk_30_method_1_code 4 = .ok (.return_, 1) := by decide +kernel
theorem pn_java_lang_Record : plainName "java/lang/Record" = true := by first | (simp [plainName, overriddenIn]; done) | decide +kernel
theorem ef_rec (m : MethodId) (a1 : Addr) : entryFrame m #[(.ref a1)] 1 = mkF m 0 #[.val (.ref a1)] [] := by first | (simp [entryFrame, mkF, argsToLocals, Value.category]; done) | rfl
def Qrec (Z : State) (a1 : Addr) (h0 : Heap) (n0 : Nat) (v : Option Value) (h : Heap) (L : List Loc) : Prop := v = none ∧ Fr n0 L ∧ Keep h0 h []
set_option maxRecDepth 65536 in
set_option maxHeartbeats 40000000 in
theorem rmrec (l : Launch) (Z : State) (a0 : Array Value) (hw : ∀ d ∈ tables_1, d.before a0 Z = true) (ws : List Jvm.Cond) (a1 : Addr) (h0 : Heap) (n0 : Nat) (Z0 : n0 ≤ h0.size) :
    MetFree l (⟨"java/lang/Record", "<init>", "()V"⟩ : MethodName) (head1 (Jvm.Cond.code (⟨"java/lang/Record", "<init>", "()V"⟩ : MethodName) jdk_30_method_1_code 1 none :: ws) ({ frames := 1, cells := 0, slots := 0, locals := 12 } : Room)) (fun a U => a = #[(.ref a1)] ∧ Z.Warmed39 U.vm ∧ U.heap = h0) (fun _ _ _ _ _ => True) (fun _ U o U' => ∃ v L, o = .returned v ∧ Qrec Z a1 h0 n0 v U'.heap L ∧ FrameEnd U o U' L ({ frames := 1, cells := 0, slots := 0, locals := 12 } : Room).cells ({ frames := 1, cells := 0, slots := 0, locals := 12 } : Room).slots) := by
  refine MetFree.of_bodySF (plainFor_of_name pn_java_lang_Record) hisR ?_
  intro p e s m args below meth c s₁ Bd hml0 hP hK
  obtain ⟨rfl, hZ, hH0⟩ := hP
  have hx := Bd.exec
  have hby := Bd.bytes
  have hml : c.maxLocals = 1 := hml0
  have hown : s.vm.findClass "java/lang/Record" = some m.cls := findClass_of_methodNamed Bd.named
  have hnm := (name_of_methodNamed Bd.named Bd.method).1
  have X0 : Stand p l e ({ frames := 1, cells := 0, slots := 0, locals := 12 } : Room) s m #[(.ref a1)] below meth c s₁ [] 0 0 := Stand.of_body Bd
  have e0 : s₁.heap = h0 := by rw [← hH0, Bd.state]; rfl
  have N0 := Fr.nil n0
  refine own_cast (ef_rec m a1) ?_
  show own_Go p e below (fun o U' => ∃ v L, o = .returned v ∧ Qrec Z a1 h0 n0 v U'.heap L ∧ FrameEnd s o U' L ({ frames := 1, cells := 0, slots := 0, locals := 12 } : Room).cells ({ frames := 1, cells := 0, slots := 0, locals := 12 } : Room).slots) (s₁.setTop (mkF m 0 #[.val (.ref a1)] []))
  refine own_via (fun _ => XS.aloadN X0.here hx rfl (hb hby d6_0) rfl rfl) ?_
  show own_Go p e below _ (s₁.setTop (mkF m 1 #[.val (.ref a1)] [(.ref a1)]))
  obtain ⟨T_1, X_1, e_1, st_1⟩ := initO X0 hx hZ hown (own_w hw 37 rfl) (own_w hw 16 rfl) (own_w hw 17 rfl) e0 (g := (mkF m 1 #[.val (.ref a1)] [(.ref a1)])) rfl (by rw [hml]; rfl) rfl (hb hby d6_1) (by decide) (W := 0) (by show 2 * 0 + _ ≤ _; exact Nat.le_of_eq rfl) (by decide)
  refine own_via st_1 ?_
  show own_Go p e below _ (T_1.setTop (mkF m 4 #[.val (.ref a1)] []))
  exact own_ret0 X_1 Bd.notSynchronized hx Bd.returns (hb hby d6_4) (by decide) (by decide) (by rw [e_1]; exact ⟨rfl, N0, (Keep.refl h0 [])⟩)
theorem d5_0 : decode prog_40_method_1_code 0 = .ok (.aload_n 0, 1) := by decide +kernel
theorem d5_1 : decode prog_40_method_1_code 1 = .ok (.invokespecial 1, 3) := by decide +kernel
theorem d5_4 : decode prog_40_method_1_code 4 = .ok (.aload_n 0, 1) := by decide +kernel
theorem d5_5 : decode prog_40_method_1_code 5 = .ok (.aload_n 1, 1) := by decide +kernel
theorem d5_6 : decode prog_40_method_1_code 6 = .ok (.putfield 7, 3) := by decide +kernel
theorem d5_9 : decode prog_40_method_1_code 9 = .ok (.aload_n 0, 1) := by decide +kernel
theorem d5_10 : decode prog_40_method_1_code 10 = .ok (.aload_n 2, 1) := by decide +kernel
theorem d5_11 : decode prog_40_method_1_code 11 = .ok (.putfield 13, 3) := by decide +kernel
theorem d5_14 : decode prog_40_method_1_code 14 = .ok (.aload_n 0, 1) := by decide +kernel
theorem d5_15 : decode prog_40_method_1_code 15 = .ok (.aload_n 3, 1) := by decide +kernel
theorem d5_16 : decode prog_40_method_1_code 16 = .ok (.putfield 16, 3) := by decide +kernel
theorem d5_19 : decode prog_40_method_1_code 19 = .ok (.aload_n 0, 1) := by decide +kernel
theorem d5_20 : decode prog_40_method_1_code 20 = .ok (.aload 4, 2) := by decide +kernel
theorem d5_22 : decode prog_40_method_1_code 22 = .ok (.putfield 19, 3) := by decide +kernel
theorem d5_25 : decode prog_40_method_1_code 25 = .ok (.return_, 1) := by decide +kernel
theorem pn_com_example_keelstone_keelstone_store_FollowUp : plainName "com/example/keelstone/keelstone/store/FollowUp" = true := by first | (simp [plainName, overriddenIn]; done) | decide +kernel
theorem ef_fuInit (m : MethodId) (a1 : Addr) (v0 : Value) (v1 : Value) (v2 : Value) (v3 : Value) (hrv0 : v0.isRef = true) (hrv1 : v1.isRef = true) (hrv2 : v2.isRef = true) (hrv3 : v3.isRef = true) : entryFrame m #[(.ref a1), v0, v1, v2, v3] 5 = mkF m 0 #[.val (.ref a1), .val v0, .val v1, .val v2, .val v3] [] := by rcases ref_cases hrv0 with rfl | ⟨yv0, rfl⟩ <;> rcases ref_cases hrv1 with rfl | ⟨yv1, rfl⟩ <;> rcases ref_cases hrv2 with rfl | ⟨yv2, rfl⟩ <;> rcases ref_cases hrv3 with rfl | ⟨yv3, rfl⟩ <;>  first | (simp [entryFrame, mkF, argsToLocals, Value.category]; done) | rfl
def QfuInit (Z : State) (a1 : Addr) (v0 : Value) (v1 : Value) (v2 : Value) (v3 : Value) (h0 : Heap) (n0 : Nat) (v : Option Value) (h : Heap) (L : List Loc) : Prop := v = none ∧ Fr n0 L ∧ Keep h0 h [a1] ∧ (Fld Z h a1 "com/example/keelstone/keelstone/store/FollowUp" "seriesId" "Ljava/lang/String;" v1) ∧ (Fld Z h a1 "com/example/keelstone/keelstone/store/FollowUp" "replaced" "Ljava/lang/String;" v2)
set_option maxRecDepth 65536 in
set_option maxHeartbeats 40000000 in
theorem rmfuInit (l : Launch) (Z : State) (a0 : Array Value) (hw : ∀ d ∈ tables_1, d.before a0 Z = true) (ws : List Jvm.Cond) (a1 : Addr) (v0 : Value) (v1 : Value) (v2 : Value) (v3 : Value) (h0 : Heap) (n0 : Nat) (Z0 : n0 ≤ h0.size) (E1 : Exa Z h0 a1 "com/example/keelstone/keelstone/store/FollowUp") (F0 : Fld Z h0 a1 "com/example/keelstone/keelstone/store/FollowUp" "identifier" "Ljava/lang/String;" .null) (F1 : Fld Z h0 a1 "com/example/keelstone/keelstone/store/FollowUp" "seriesId" "Ljava/lang/String;" .null) (F2 : Fld Z h0 a1 "com/example/keelstone/keelstone/store/FollowUp" "replaced" "Ljava/lang/String;" .null) (F3 : Fld Z h0 a1 "com/example/keelstone/keelstone/store/FollowUp" "replacedSystemMetadata" "[B" .null) (g1 : n0 ≤ a1) (hr0 : v0.isRef = true) (hr1 : v1.isRef = true) (hr2 : v2.isRef = true) (hr3 : v3.isRef = true) :
    MetFree l (⟨"com/example/keelstone/keelstone/store/FollowUp", "<init>", "(Ljava/lang/String;Ljava/lang/String;Ljava/lang/String;[B)V"⟩ : MethodName) (head1 (Jvm.Cond.code (⟨"com/example/keelstone/keelstone/store/FollowUp", "<init>", "(Ljava/lang/String;Ljava/lang/String;Ljava/lang/String;[B)V"⟩ : MethodName) prog_40_method_1_code 5 none :: ws) ({ frames := 2, cells := 0, slots := 0, locals := 24 } : Room)) (fun a U => a = #[(.ref a1), v0, v1, v2, v3] ∧ Z.Warmed39 U.vm ∧ U.heap = h0) (fun _ _ _ _ _ => True) (fun _ U o U' => ∃ v L, o = .returned v ∧ QfuInit Z a1 v0 v1 v2 v3 h0 n0 v U'.heap L ∧ FrameEnd U o U' L ({ frames := 2, cells := 0, slots := 0, locals := 24 } : Room).cells ({ frames := 2, cells := 0, slots := 0, locals := 24 } : Room).slots) := by
  refine MetFree.of_bodySF (plainFor_of_name pn_com_example_keelstone_keelstone_store_FollowUp) hisR ?_
  intro p e s m args below meth c s₁ Bd hml0 hP hK
  obtain ⟨rfl, hZ, hH0⟩ := hP
  have hx := Bd.exec
  have hby := Bd.bytes
  have hml : c.maxLocals = 5 := hml0
  have hown : s.vm.findClass "com/example/keelstone/keelstone/store/FollowUp" = some m.cls := findClass_of_methodNamed Bd.named
  have hnm := (name_of_methodNamed Bd.named Bd.method).1
  have X0 : Stand p l e ({ frames := 2, cells := 0, slots := 0, locals := 24 } : Room) s m #[(.ref a1), v0, v1, v2, v3] below meth c s₁ [] 0 0 := Stand.of_body Bd
  have e0 : s₁.heap = h0 := by rw [← hH0, Bd.state]; rfl
  have N0 := Fr.nil n0
  refine own_cast (ef_fuInit m a1 v0 v1 v2 v3 hr0 hr1 hr2 hr3) ?_
  show own_Go p e below (fun o U' => ∃ v L, o = .returned v ∧ QfuInit Z a1 v0 v1 v2 v3 h0 n0 v U'.heap L ∧ FrameEnd s o U' L ({ frames := 2, cells := 0, slots := 0, locals := 24 } : Room).cells ({ frames := 2, cells := 0, slots := 0, locals := 24 } : Room).slots) (s₁.setTop (mkF m 0 #[.val (.ref a1), .val v0, .val v1, .val v2, .val v3] []))
  refine own_via (fun _ => XS.aloadN X0.here hx rfl (hb hby d5_0) rfl rfl) ?_
  show own_Go p e below _ (s₁.setTop (mkF m 1 #[.val (.ref a1), .val v0, .val v1, .val v2, .val v3] [(.ref a1)]))
  obtain ⟨_, _, ⟨T_1, L_1, k_1, n_1⟩, -, X_1, ⟨Lc_1, hQ_1, l_1, y_1, z_1⟩, st_1⟩ := X0.specialBack hx (y := (⟨"java/lang/Record", "<init>", "()V"⟩ : MethodName)) rfl hown (mvT hZ (own_w hw 32 rfl)) (mvT hZ (own_w hw 33 rfl)) (mvT hZ (own_w hw 36 rfl)) (by decide) (backOf (W := 0) (rmrec l Z a0 hw [] a1 h0 n0 Z0 ) hZ (own_w hw 36 rfl) (own_w hw 35 rfl) (by decide) (by decide)) (g := (mkF m 1 #[.val (.ref a1), .val v0, .val v1, .val v2, .val v3] [(.ref a1)])) rfl (by rw [hml]; rfl) (Steps.refl _) (a := a1) (argsL := []) (rest := []) (lenOf pd_0 rfl) rfl (by show 2 * 0 + _ ≤ _; exact Nat.le_of_eq rfl) (hb hby d5_1) (fun _ _ => ⟨rfl, e0, (by decide : 0 + 0 ≤ _), (by decide : 0 + 0 ≤ _)⟩)
  dsimp only [Pt.U, Pt.locs, Pt.cells, Pt.slots] at X_1 l_1 y_1 z_1 st_1 hQ_1
  subst l_1 y_1 z_1
  obtain ⟨rfl, Nq_1, K_1q⟩ := hQ_1
  have N_1 := Fr.app N0 Nq_1
  refine own_via (fun _ k => st_1.trans k) ?_
  show own_Go p e below _ (T_1.setTop (mkF m 4 #[.val (.ref a1), .val v0, .val v1, .val v2, .val v3] []))
  refine own_via (fun _ => XS.aloadN X_1.here hx rfl (hb hby d5_4) rfl rfl) ?_
  show own_Go p e below _ (T_1.setTop (mkF m 5 #[.val (.ref a1), .val v0, .val v1, .val v2, .val v3] [(.ref a1)]))
  refine own_via (fun _ => XS.aloadN X_1.here hx rfl (hb hby d5_5) rfl hr0) ?_
  show own_Go p e below _ (T_1.setTop (mkF m 6 #[.val (.ref a1), .val v0, .val v1, .val v2, .val v3] [v0, (.ref a1)]))
  have K_2 : Keep h0 T_1.heap [] := Keep.trans (ws := []) (Keep.refl h0 []) K_1q all0
  obtain ⟨T_3, h_3, X_3, e_3, W_3, st_3⟩ := putF X_1 hx hZ hown (host := "") (Or.inl (own_w hw 38 rfl)) Via.refl rfl (F0.keep K_2 nin0) (E1.keep K_2) (Or.inr ⟨(own_w hw 39 rfl), rfl, hnm⟩) (own_w hw 27 rfl) (ty := (.object "java/lang/String")) (by decide) (own_narR hr0) (own_fitR hr0) (g := (mkF m 6 #[.val (.ref a1), .val v0, .val v1, .val v2, .val v3] [v0, (.ref a1)])) rfl rfl (hb hby d5_6)
  have F_4 : Fld Z h_3 a1 "com/example/keelstone/keelstone/store/FollowUp" "seriesId" "Ljava/lang/String;" .null := (F1.keep K_2 nin0).other W_3 (Or.inr (slot_ne (Or.inr (own_w hw 41 rfl)) (Or.inr (own_w hw 39 rfl)) (by decide) (t := (.object "java/lang/String")) (t' := (.object "java/lang/String")) (by decide) (by decide)))
  have F_5 : Fld Z h_3 a1 "com/example/keelstone/keelstone/store/FollowUp" "replaced" "Ljava/lang/String;" .null := (F2.keep K_2 nin0).other W_3 (Or.inr (slot_ne (Or.inr (own_w hw 43 rfl)) (Or.inr (own_w hw 39 rfl)) (by decide) (t := (.object "java/lang/String")) (t' := (.object "java/lang/String")) (by decide) (by decide)))
  have F_6 : Fld Z h_3 a1 "com/example/keelstone/keelstone/store/FollowUp" "replacedSystemMetadata" "[B" .null := (F3.keep K_2 nin0).other W_3 (Or.inr (slot_ne (Or.inr (own_w hw 45 rfl)) (Or.inr (own_w hw 39 rfl)) (by decide) (t := (.array .byte)) (t' := (.object "java/lang/String")) (by decide) (by decide)))
  have F_7 : Fld Z h_3 a1 "com/example/keelstone/keelstone/store/FollowUp" "identifier" "Ljava/lang/String;" v0 := (F0.keep K_2 nin0).same W_3
  have N_3 := Fr.snoc X_3 N_1 g1
  refine own_via st_3 ?_
  show own_Go p e below _ (T_3.setTop (mkF m 9 #[.val (.ref a1), .val v0, .val v1, .val v2, .val v3] []))
  refine own_via (fun _ => XS.aloadN X_3.here hx rfl (hb hby d5_9) rfl rfl) ?_
  show own_Go p e below _ (T_3.setTop (mkF m 10 #[.val (.ref a1), .val v0, .val v1, .val v2, .val v3] [(.ref a1)]))
  refine own_via (fun _ => XS.aloadN X_3.here hx rfl (hb hby d5_10) rfl hr1) ?_
  show own_Go p e below _ (T_3.setTop (mkF m 11 #[.val (.ref a1), .val v0, .val v1, .val v2, .val v3] [v1, (.ref a1)]))
  have K_8 : Keep h0 h_3 [a1] := Keep.wr (ws := [a1]) (own_keep_mono K_2 (by simp)) W_3 (Or.inl (List.mem_of_getElem? (i := 0) rfl))
  obtain ⟨T_9, h_9, X_9, e_9, W_9, st_9⟩ := putF X_3 hx hZ hown (host := "") (Or.inl (own_w hw 40 rfl)) Via.refl e_3 F_4 (E1.keep K_8) (Or.inr ⟨(own_w hw 41 rfl), rfl, hnm⟩) (own_w hw 27 rfl) (ty := (.object "java/lang/String")) (by decide) (own_narR hr1) (own_fitR hr1) (g := (mkF m 11 #[.val (.ref a1), .val v0, .val v1, .val v2, .val v3] [v1, (.ref a1)])) rfl rfl (hb hby d5_11)
  have F_10 : Fld Z h_9 a1 "com/example/keelstone/keelstone/store/FollowUp" "replaced" "Ljava/lang/String;" .null := F_5.other W_9 (Or.inr (slot_ne (Or.inr (own_w hw 43 rfl)) (Or.inr (own_w hw 41 rfl)) (by decide) (t := (.object "java/lang/String")) (t' := (.object "java/lang/String")) (by decide) (by decide)))
  have F_11 : Fld Z h_9 a1 "com/example/keelstone/keelstone/store/FollowUp" "replacedSystemMetadata" "[B" .null := F_6.other W_9 (Or.inr (slot_ne (Or.inr (own_w hw 45 rfl)) (Or.inr (own_w hw 41 rfl)) (by decide) (t := (.array .byte)) (t' := (.object "java/lang/String")) (by decide) (by decide)))
  have F_12 : Fld Z h_9 a1 "com/example/keelstone/keelstone/store/FollowUp" "identifier" "Ljava/lang/String;" v0 := F_7.other W_9 (Or.inr (slot_ne (Or.inr (own_w hw 39 rfl)) (Or.inr (own_w hw 41 rfl)) (by decide) (t := (.object "java/lang/String")) (t' := (.object "java/lang/String")) (by decide) (by decide)))
  have F_13 : Fld Z h_9 a1 "com/example/keelstone/keelstone/store/FollowUp" "seriesId" "Ljava/lang/String;" v1 := F_4.same W_9
  have N_9 := Fr.snoc X_9 N_3 g1
  refine own_via st_9 ?_
  show own_Go p e below _ (T_9.setTop (mkF m 14 #[.val (.ref a1), .val v0, .val v1, .val v2, .val v3] []))
  refine own_via (fun _ => XS.aloadN X_9.here hx rfl (hb hby d5_14) rfl rfl) ?_
  show own_Go p e below _ (T_9.setTop (mkF m 15 #[.val (.ref a1), .val v0, .val v1, .val v2, .val v3] [(.ref a1)]))
  refine own_via (fun _ => XS.aloadN X_9.here hx rfl (hb hby d5_15) rfl hr2) ?_
  show own_Go p e below _ (T_9.setTop (mkF m 16 #[.val (.ref a1), .val v0, .val v1, .val v2, .val v3] [v2, (.ref a1)]))
  have K_14 : Keep h0 h_9 [a1] := Keep.wr (ws := [a1]) K_8 W_9 (Or.inl (List.mem_of_getElem? (i := 0) rfl))
  obtain ⟨T_15, h_15, X_15, e_15, W_15, st_15⟩ := putF X_9 hx hZ hown (host := "") (Or.inl (own_w hw 42 rfl)) Via.refl e_9 F_10 (E1.keep K_14) (Or.inr ⟨(own_w hw 43 rfl), rfl, hnm⟩) (own_w hw 27 rfl) (ty := (.object "java/lang/String")) (by decide) (own_narR hr2) (own_fitR hr2) (g := (mkF m 16 #[.val (.ref a1), .val v0, .val v1, .val v2, .val v3] [v2, (.ref a1)])) rfl rfl (hb hby d5_16)
  have F_16 : Fld Z h_15 a1 "com/example/keelstone/keelstone/store/FollowUp" "replacedSystemMetadata" "[B" .null := F_11.other W_15 (Or.inr (slot_ne (Or.inr (own_w hw 45 rfl)) (Or.inr (own_w hw 43 rfl)) (by decide) (t := (.array .byte)) (t' := (.object "java/lang/String")) (by decide) (by decide)))
  have F_17 : Fld Z h_15 a1 "com/example/keelstone/keelstone/store/FollowUp" "identifier" "Ljava/lang/String;" v0 := F_12.other W_15 (Or.inr (slot_ne (Or.inr (own_w hw 39 rfl)) (Or.inr (own_w hw 43 rfl)) (by decide) (t := (.object "java/lang/String")) (t' := (.object "java/lang/String")) (by decide) (by decide)))
  have F_18 : Fld Z h_15 a1 "com/example/keelstone/keelstone/store/FollowUp" "seriesId" "Ljava/lang/String;" v1 := F_13.other W_15 (Or.inr (slot_ne (Or.inr (own_w hw 41 rfl)) (Or.inr (own_w hw 43 rfl)) (by decide) (t := (.object "java/lang/String")) (t' := (.object "java/lang/String")) (by decide) (by decide)))
  have F_19 : Fld Z h_15 a1 "com/example/keelstone/keelstone/store/FollowUp" "replaced" "Ljava/lang/String;" v2 := F_10.same W_15
  have N_15 := Fr.snoc X_15 N_9 g1
  refine own_via st_15 ?_
  show own_Go p e below _ (T_15.setTop (mkF m 19 #[.val (.ref a1), .val v0, .val v1, .val v2, .val v3] []))
  refine own_via (fun _ => XS.aloadN X_15.here hx rfl (hb hby d5_19) rfl rfl) ?_
  show own_Go p e below _ (T_15.setTop (mkF m 20 #[.val (.ref a1), .val v0, .val v1, .val v2, .val v3] [(.ref a1)]))
  refine own_via (fun _ => XS.aload X_15.here hx rfl (hb hby d5_20) rfl hr3) ?_
  show own_Go p e below _ (T_15.setTop (mkF m 22 #[.val (.ref a1), .val v0, .val v1, .val v2, .val v3] [v3, (.ref a1)]))
  have K_20 : Keep h0 h_15 [a1] := Keep.wr (ws := [a1]) K_14 W_15 (Or.inl (List.mem_of_getElem? (i := 0) rfl))
  obtain ⟨T_21, h_21, X_21, e_21, W_21, st_21⟩ := putF X_15 hx hZ hown (host := "") (Or.inl (own_w hw 44 rfl)) Via.refl e_15 F_16 (E1.keep K_20) (Or.inr ⟨(own_w hw 45 rfl), rfl, hnm⟩) (own_w hw 27 rfl) (ty := (.array .byte)) (by decide) (own_narR hr3) (own_fitA hr3) (g := (mkF m 22 #[.val (.ref a1), .val v0, .val v1, .val v2, .val v3] [v3, (.ref a1)])) rfl rfl (hb hby d5_22)
  have F_22 : Fld Z h_21 a1 "com/example/keelstone/keelstone/store/FollowUp" "identifier" "Ljava/lang/String;" v0 := F_17.other W_21 (Or.inr (slot_ne (Or.inr (own_w hw 39 rfl)) (Or.inr (own_w hw 45 rfl)) (by decide) (t := (.object "java/lang/String")) (t' := (.array .byte)) (by decide) (by decide)))
  have F_23 : Fld Z h_21 a1 "com/example/keelstone/keelstone/store/FollowUp" "seriesId" "Ljava/lang/String;" v1 := F_18.other W_21 (Or.inr (slot_ne (Or.inr (own_w hw 41 rfl)) (Or.inr (own_w hw 45 rfl)) (by decide) (t := (.object "java/lang/String")) (t' := (.array .byte)) (by decide) (by decide)))
  have F_24 : Fld Z h_21 a1 "com/example/keelstone/keelstone/store/FollowUp" "replaced" "Ljava/lang/String;" v2 := F_19.other W_21 (Or.inr (slot_ne (Or.inr (own_w hw 43 rfl)) (Or.inr (own_w hw 45 rfl)) (by decide) (t := (.object "java/lang/String")) (t' := (.array .byte)) (by decide) (by decide)))
  have F_25 : Fld Z h_21 a1 "com/example/keelstone/keelstone/store/FollowUp" "replacedSystemMetadata" "[B" v3 := F_16.same W_21
  have N_21 := Fr.snoc X_21 N_15 g1
  refine own_via st_21 ?_
  show own_Go p e below _ (T_21.setTop (mkF m 25 #[.val (.ref a1), .val v0, .val v1, .val v2, .val v3] []))
  have K_26 : Keep h0 h_21 [a1] := Keep.wr (ws := [a1]) K_20 W_21 (Or.inl (List.mem_of_getElem? (i := 0) rfl))
  exact own_ret0 X_21 Bd.notSynchronized hx Bd.returns (hb hby d5_25) (by decide) (by decide) (by rw [e_21]; exact ⟨rfl, N_21, K_26, F_23, F_24⟩)
theorem d7_0 : decode prog_40_method_3_code 0 = .ok (.aload_n 0, 1) := by decide +kernel
theorem d7_1 : decode prog_40_method_3_code 1 = .ok (.getfield 13, 3) := by decide +kernel
theorem d7_4 : decode prog_40_method_3_code 4 = .ok (.ifnonnull 14, 3) := by decide +kernel
theorem d7_7 : decode prog_40_method_3_code 7 = .ok (.aload_n 0, 1) := by decide +kernel
theorem d7_8 : decode prog_40_method_3_code 8 = .ok (.getfield 16, 3) := by decide +kernel
theorem d7_11 : decode prog_40_method_3_code 11 = .ok (.ifnonnull 7, 3) := by decide +kernel
theorem d7_14 : decode prog_40_method_3_code 14 = .ok (.iconst 1, 1) := by decide +kernel
theorem d7_15 : decode prog_40_method_3_code 15 = .ok (.goto 4, 3) := by decide +kernel
theorem d7_18 : decode prog_40_method_3_code 18 = .ok (.iconst 0, 1) := by decide +kernel
theorem d7_19 : decode prog_40_method_3_code 19 = .ok (.ireturn, 1) := by decide +kernel
theorem ef_isEmpty (m : MethodId) (a1 : Addr) : entryFrame m #[(.ref a1)] 1 = mkF m 0 #[.val (.ref a1)] [] := by first | (simp [entryFrame, mkF, argsToLocals, Value.category]; done) | rfl
def QisEmpty (Z : State) (a1 : Addr) (v1 : Value) (v2 : Value) (h0 : Heap) (n0 : Nat) (v : Option Value) (h : Heap) (L : List Loc) : Prop := ∃ z : Int32, v = some (.int z) ∧ Fr n0 L ∧ Keep h0 h [] ∧ (z = if v1 = .null ∧ v2 = .null then 1 else 0)
set_option maxRecDepth 65536 in
set_option maxHeartbeats 40000000 in
theorem rmisEmpty (l : Launch) (Z : State) (a0 : Array Value) (hw : ∀ d ∈ tables_1, d.before a0 Z = true) (ws : List Jvm.Cond) (a1 : Addr) (v1 : Value) (v2 : Value) (h0 : Heap) (n0 : Nat) (Z0 : n0 ≤ h0.size) (F1 : Fld Z h0 a1 "com/example/keelstone/keelstone/store/FollowUp" "seriesId" "Ljava/lang/String;" v1) (F2 : Fld Z h0 a1 "com/example/keelstone/keelstone/store/FollowUp" "replaced" "Ljava/lang/String;" v2) (hr1 : v1.isRef = true) (hr2 : v2.isRef = true) :
    MetFree l (⟨"com/example/keelstone/keelstone/store/FollowUp", "isEmpty", "()Z"⟩ : MethodName) (head1 (Jvm.Cond.code (⟨"com/example/keelstone/keelstone/store/FollowUp", "isEmpty", "()Z"⟩ : MethodName) prog_40_method_3_code 1 (some .boolean) :: ws) ({ frames := 0, cells := 0, slots := 0, locals := 0 } : Room)) (fun a U => a = #[(.ref a1)] ∧ Z.Warmed39 U.vm ∧ U.heap = h0) (fun _ _ _ _ _ => True) (fun _ U o U' => ∃ v L, o = .returned v ∧ QisEmpty Z a1 v1 v2 h0 n0 v U'.heap L ∧ FrameEnd U o U' L ({ frames := 0, cells := 0, slots := 0, locals := 0 } : Room).cells ({ frames := 0, cells := 0, slots := 0, locals := 0 } : Room).slots) := by
  refine MetFree.of_bodySF (plainFor_of_name pn_com_example_keelstone_keelstone_store_FollowUp) hisR ?_
  intro p e s m args below meth c s₁ Bd hml0 hP hK
  obtain ⟨rfl, hZ, hH0⟩ := hP
  have hx := Bd.exec
  have hby := Bd.bytes
  have hml : c.maxLocals = 1 := hml0
  have hown : s.vm.findClass "com/example/keelstone/keelstone/store/FollowUp" = some m.cls := findClass_of_methodNamed Bd.named
  have hnm := (name_of_methodNamed Bd.named Bd.method).1
  have X0 : Stand p l e ({ frames := 0, cells := 0, slots := 0, locals := 0 } : Room) s m #[(.ref a1)] below meth c s₁ [] 0 0 := Stand.of_body Bd
  have e0 : s₁.heap = h0 := by rw [← hH0, Bd.state]; rfl
  have N0 := Fr.nil n0
  refine own_cast (ef_isEmpty m a1) ?_
  show own_Go p e below (fun o U' => ∃ v L, o = .returned v ∧ QisEmpty Z a1 v1 v2 h0 n0 v U'.heap L ∧ FrameEnd s o U' L ({ frames := 0, cells := 0, slots := 0, locals := 0 } : Room).cells ({ frames := 0, cells := 0, slots := 0, locals := 0 } : Room).slots) (s₁.setTop (mkF m 0 #[.val (.ref a1)] []))
  refine own_via (fun _ => XS.aloadN X0.here hx rfl (hb hby d7_0) rfl rfl) ?_
  show own_Go p e below _ (s₁.setTop (mkF m 1 #[.val (.ref a1)] [(.ref a1)]))
  obtain ⟨T_1, X_1, e_1, st_1⟩ := getF X0 hx hZ hown (host := "") (Or.inl (own_w hw 40 rfl)) Via.refl e0 F1 (g := (mkF m 1 #[.val (.ref a1)] [(.ref a1)])) rfl rfl (hb hby d7_1)
  refine own_via st_1 ?_
  show own_Go p e below _ (T_1.setTop (mkF m 4 #[.val (.ref a1)] [v1]))
  rcases ref_cases hr1 with rfl | ⟨y_2, rfl⟩
  · refine own_via (fun _ => XS.ifnonnullNo X_1.here hx rfl (hb hby d7_4) rfl) ?_
    show own_Go p e below _ (T_1.setTop (mkF m 7 #[.val (.ref a1)] []))
    refine own_via (fun _ => XS.aloadN X_1.here hx rfl (hb hby d7_7) rfl rfl) ?_
    show own_Go p e below _ (T_1.setTop (mkF m 8 #[.val (.ref a1)] [(.ref a1)]))
    obtain ⟨T_3, X_3, e_3, st_3⟩ := getF X_1 hx hZ hown (host := "") (Or.inl (own_w hw 42 rfl)) Via.refl e_1 F2 (g := (mkF m 8 #[.val (.ref a1)] [(.ref a1)])) rfl rfl (hb hby d7_8)
    refine own_via st_3 ?_
    show own_Go p e below _ (T_3.setTop (mkF m 11 #[.val (.ref a1)] [v2]))
    rcases ref_cases hr2 with rfl | ⟨y_4, rfl⟩
    · refine own_via (fun _ => XS.ifnonnullNo X_3.here hx rfl (hb hby d7_11) rfl) ?_
      show own_Go p e below _ (T_3.setTop (mkF m 14 #[.val (.ref a1)] []))
      refine own_via (fun _ => XS.iconst X_3.here hx rfl (hb hby d7_14)) ?_
      show own_Go p e below _ (T_3.setTop (mkF m 15 #[.val (.ref a1)] [(.int (1 : Int32))]))
      refine own_via (fun _ => XS.goto X_3.here hx rfl (pc0 := 15) (pc' := 19) rfl (hb hby d7_15) (by decide) (by decide)) ?_
      show own_Go p e below _ (T_3.setTop (mkF m 19 #[.val (.ref a1)] [(.int (1 : Int32))]))
      exact own_retv X_3 Bd.notSynchronized hx Bd.returns rfl (Or.inl ⟨rfl, (by simp), _, rfl⟩) (hb hby d7_19) (by decide) (by decide) (by rw [e_3]; exact ⟨(1 : Int32), rfl, N0, (Keep.refl h0 []), (by simp)⟩)
    · refine own_via (fun _ => XS.ifnonnullYes X_3.here hx rfl (pc0 := 11) (pc' := 18) rfl (hb hby d7_11) rfl (by decide) (by decide)) ?_
      show own_Go p e below _ (T_3.setTop (mkF m 18 #[.val (.ref a1)] []))
      refine own_via (fun _ => XS.iconst X_3.here hx rfl (hb hby d7_18)) ?_
      show own_Go p e below _ (T_3.setTop (mkF m 19 #[.val (.ref a1)] [(.int (0 : Int32))]))
      exact own_retv X_3 Bd.notSynchronized hx Bd.returns rfl (Or.inl ⟨rfl, (by simp), _, rfl⟩) (hb hby d7_19) (by decide) (by decide) (by rw [e_3]; exact ⟨(0 : Int32), rfl, N0, (Keep.refl h0 []), (by simp)⟩)
  · refine own_via (fun _ => XS.ifnonnullYes X_1.here hx rfl (pc0 := 4) (pc' := 18) rfl (hb hby d7_4) rfl (by decide) (by decide)) ?_
    show own_Go p e below _ (T_1.setTop (mkF m 18 #[.val (.ref a1)] []))
    refine own_via (fun _ => XS.iconst X_1.here hx rfl (hb hby d7_18)) ?_
    show own_Go p e below _ (T_1.setTop (mkF m 19 #[.val (.ref a1)] [(.int (0 : Int32))]))
    exact own_retv X_1 Bd.notSynchronized hx Bd.returns rfl (Or.inl ⟨rfl, (by simp), _, rfl⟩) (hb hby d7_19) (by decide) (by decide) (by rw [e_1]; exact ⟨(0 : Int32), rfl, N0, (Keep.refl h0 []), (by simp)⟩)
theorem own_fin {r1 r2 : Value} {A B : Prop} [Decidable A] [Decidable B] {z1 z2 z3 z : Int32} (h1 : r1 = .null ↔ ¬ A) (h2 : r2 = .null ↔ ¬ B) (e1 : z1 = if A then 0 else 1) (e2 : z2 = if B then 0 else 1) (e3 : z3 = if z1 = (0 : Int32) then 0 else if z2 = (0 : Int32) then 0 else 1) (e : z = if r1 = .null ∧ r2 = .null then 1 else 0) : z = z3 := by
  subst e1 e2 e3 e
  by_cases a : A <;> by_cases b : B <;> simp [a, b, h1, h2]

theorem pd_7 : parseMethodDescriptor "(II)Ljava/lang/String;" = some ⟨[.int, .int], some (.object "java/lang/String")⟩ := by decide +kernel
theorem pd_8 : parseMethodDescriptor "(Ljava/lang/String;Ljava/lang/String;Ljava/lang/String;[B)V" = some ⟨[(.object "java/lang/String"), (.object "java/lang/String"), (.object "java/lang/String"), (.array .byte)], none⟩ := by decide +kernel
theorem pd_9 : parseMethodDescriptor "()Z" = some ⟨[], some .boolean⟩ := by decide +kernel
theorem ef_0 (m : MethodId) (p1 : Int32) (p2 : Int32) (p3 : Int32) (p4 : Int32) (p5 : Int32) : entryFrame m #[(.int p1), (.int p2), (.int p3), (.int p4), (.int p5)] maxLocals = mkF m 0 #[.val (.int p1), .val (.int p2), .val (.int p3), .val (.int p4), .val (.int p5), .unset, .unset, .unset, .unset, .unset, .unset, .unset, .unset] [] := by first | (simp [entryFrame, mkF, argsToLocals, Value.category, maxLocals]; done) | rfl
def Q0 (Z : State) (p1 : Int32) (p2 : Int32) (p3 : Int32) (p4 : Int32) (p5 : Int32) (cs : Int32) (h0 : Heap) (n0 : Nat) (v : Option Value) (h : Heap) (L : List Loc) (vm : Vm) : Prop := v = some (.int (1 : Int32)) ∧ Fr n0 L ∧ Keep h0 h []
set_option maxRecDepth 65536 in
set_option maxHeartbeats 40000000 in
theorem rm0 (l : Launch) (Z : State) (a0 : Array Value) (hw : ∀ d ∈ tables_1, d.before a0 Z = true) (ws : List Jvm.Cond) (p1 : Int32) (p2 : Int32) (p3 : Int32) (p4 : Int32) (p5 : Int32) (cs : Int32) (h0 : Heap) (n0 : Nat) (Z0 : n0 ≤ h0.size) (O0 : Old Z n0 h0) (Scs : Sta Z Z.heap "java/lang/String" "COMPACT_STRINGS" "Z" (.int cs)) (hcs : ¬ (cs = (0 : Int32))) :
    MetFree l x (head1 (Jvm.Cond.code x code maxLocals ret :: ws) room_1) (fun a U => a = #[(.int p1), (.int p2), (.int p3), (.int p4), (.int p5)] ∧ Z.Warmed39 U.vm ∧ U.heap = h0 ∧ CHv Z consts_1 U.vm h0) (fun _ _ _ _ _ => True) (fun _ U o U' => ∃ v L, o = .returned v ∧ Q0 Z p1 p2 p3 p4 p5 cs h0 n0 v U'.heap L U'.vm ∧ ReturnedEndW U o U' L room_1.cells room_1.slots) := by
  refine MetFree.of_bodySF (plainFor_of_name pn_com_example_keelstone_keelstone_store_FollowUpIsEmptyPinLaw) hisR ?_
  intro p e s m args below meth c s₁ Bd hml0 hP hK
  obtain ⟨rfl, hZ, hH0, J0⟩ := hP
  have hx := Bd.exec
  have hby := Bd.bytes
  have hml : c.maxLocals = 13 := hml0
  have hown : s.vm.findClass "com/example/keelstone/keelstone/store/FollowUpIsEmptyPinLaw" = some m.cls := findClass_of_methodNamed Bd.named
  have hnm := (name_of_methodNamed Bd.named Bd.method).1
  have X0 : Stand p l e room_1 (s.setVm s.vm) m #[(.int p1), (.int p2), (.int p3), (.int p4), (.int p5)] below meth c s₁ [] 0 0 := Stand.of_body Bd
  have hS0 : s.Since s.vm 0 := (State.WarmedH.refl s).since 0
  have e0 : s₁.heap = h0 := by rw [← hH0, Bd.state]; rfl
  have N0 := Fr.nil n0
  refine own_cast (ef_0 m p1 p2 p3 p4 p5) ?_
  show own_Go p e below (fun o U' => ∃ v L, o = .returned v ∧ Q0 Z p1 p2 p3 p4 p5 cs h0 n0 v U'.heap L U'.vm ∧ ReturnedEndW s o U' L room_1.cells room_1.slots) (s₁.setTop (mkF m 0 #[.val (.int p1), .val (.int p2), .val (.int p3), .val (.int p4), .val (.int p5), .unset, .unset, .unset, .unset, .unset, .unset, .unset, .unset] []))
  refine own_via (fun _ => XS.iloadN X0.here hx rfl (hb hby at_0) rfl) ?_
  show own_Go p e below _ (s₁.setTop (mkF m 1 #[.val (.int p1), .val (.int p2), .val (.int p3), .val (.int p4), .val (.int p5), .unset, .unset, .unset, .unset, .unset, .unset, .unset, .unset] [(.int p1)]))
  refine own_via (fun _ => XS.iconst X0.here hx rfl (hb hby at_1)) ?_
  show own_Go p e below _ (s₁.setTop (mkF m 2 #[.val (.int p1), .val (.int p2), .val (.int p3), .val (.int p4), .val (.int p5), .unset, .unset, .unset, .unset, .unset, .unset, .unset, .unset] [(.int (4 : Int32)), (.int p1)]))
  refine own_via (fun _ => XS.iushr X0.here hx rfl (hb hby at_2) rfl) ?_
  show own_Go p e below _ (s₁.setTop (mkF m 3 #[.val (.int p1), .val (.int p2), .val (.int p3), .val (.int p4), .val (.int p5), .unset, .unset, .unset, .unset, .unset, .unset, .unset, .unset] [(.int ((p1.toUInt32 >>> ((4 : Int32) &&& 31).toUInt32).toInt32))]))
  refine own_via (fun _ => XS.iloadN X0.here hx rfl (hb hby at_3) rfl) ?_
  show own_Go p e below _ (s₁.setTop (mkF m 4 #[.val (.int p1), .val (.int p2), .val (.int p3), .val (.int p4), .val (.int p5), .unset, .unset, .unset, .unset, .unset, .unset, .unset, .unset] [(.int p2), (.int ((p1.toUInt32 >>> ((4 : Int32) &&& 31).toUInt32).toInt32))]))
  obtain ⟨_, _, ⟨T_1, L_1, k_1, n_1⟩, -, Xc_1, hSc_1, hgc_1, ⟨Lc_1, hQ_1, l_1, y_1, z_1⟩, st_1⟩ := callSS X0 hx (y := (⟨"com/example/keelstone/keelstone/store/FollowUpIsEmptyPinLaw", "draw", "(II)Ljava/lang/String;"⟩ : MethodName)) hown (mvT hZ (own_w hw 0 rfl)) (mvT hZ (own_w hw 1 rfl)) (mvT hZ (own_w hw 2 rfl)) (mvT hZ (own_w hw 3 rfl)) (by decide) (own_backS (J := fun vm_ => CHv Z consts_1 vm_ h0) (W := 0) (rmdraw l Z a0 hw [] ((p1.toUInt32 >>> ((4 : Int32) &&& 31).toUInt32).toInt32) p2 cs h0 n0 Z0 O0 Scs hcs) hZ (own_w hw 3 rfl) (own_w hw 2 rfl) (by decide) (by decide)) (g := (mkF m 4 #[.val (.int p1), .val (.int p2), .val (.int p3), .val (.int p4), .val (.int p5), .unset, .unset, .unset, .unset, .unset, .unset, .unset, .unset] [(.int p2), (.int ((p1.toUInt32 >>> ((4 : Int32) &&& 31).toUInt32).toInt32))])) rfl (by rw [hml]; rfl) (argsL := [(.int ((p1.toUInt32 >>> ((4 : Int32) &&& 31).toUInt32).toInt32)), (.int p2)]) (rest := []) (lenOf pd_7 rfl) rfl (by show 2 * 0 + _ ≤ _; exact Nat.le_of_eq rfl) (hb hby at_4) (fun _ hW1 => ⟨rfl, e0, (own_CHstay J0 hZ (own_EW hw) hW1), (by decide : 0 + 4 ≤ _), (by decide : 0 + 8 ≤ _)⟩)
  dsimp only [Pt.U, Pt.locs, Pt.cells, Pt.slots] at Xc_1 hSc_1 hgc_1 l_1 y_1 z_1 st_1 hQ_1
  subst l_1 y_1 z_1
  obtain ⟨X_1, hS_1, hZ_1, ho_1⟩ := rebS hS0 (by rw [e0]; exact (Nat.zero_le _)) Xc_1 hSc_1 hgc_1 hZ hown
  obtain ⟨u_2, rfl, Nq_1, K_1q, q_1_0, q_1_1, J_1⟩ := hQ_1
  have N_1 := Fr.app N0 Nq_1
  refine own_via (fun _ k => st_1.trans k) ?_
  show own_Go p e below _ (T_1.setTop (mkF m 7 #[.val (.int p1), .val (.int p2), .val (.int p3), .val (.int p4), .val (.int p5), .unset, .unset, .unset, .unset, .unset, .unset, .unset, .unset] [u_2]))
  refine own_via (fun _ => XS.astore X_1.here hx rfl (hb hby at_7) rfl q_1_0 (l' := #[.val (.int p1), .val (.int p2), .val (.int p3), .val (.int p4), .val (.int p5), .val u_2, .unset, .unset, .unset, .unset, .unset, .unset, .unset]) (by rcases ref_cases q_1_0 with rfl | ⟨y, rfl⟩ <;> rfl)) ?_
  show own_Go p e below _ (T_1.setTop (mkF m 9 #[.val (.int p1), .val (.int p2), .val (.int p3), .val (.int p4), .val (.int p5), .val u_2, .unset, .unset, .unset, .unset, .unset, .unset, .unset] []))
  refine own_via (fun _ => XS.iloadN X_1.here hx rfl (hb hby at_9) rfl) ?_
  show own_Go p e below _ (T_1.setTop (mkF m 10 #[.val (.int p1), .val (.int p2), .val (.int p3), .val (.int p4), .val (.int p5), .val u_2, .unset, .unset, .unset, .unset, .unset, .unset, .unset] [(.int p1)]))
  refine own_via (fun _ => XS.iloadN X_1.here hx rfl (hb hby at_10) rfl) ?_
  show own_Go p e below _ (T_1.setTop (mkF m 11 #[.val (.int p1), .val (.int p2), .val (.int p3), .val (.int p4), .val (.int p5), .val u_2, .unset, .unset, .unset, .unset, .unset, .unset, .unset] [(.int p3), (.int p1)]))
  have K_3 : Keep h0 T_1.heap [] := Keep.trans (ws := []) (Keep.refl h0 []) K_1q all0
  obtain ⟨_, _, ⟨T_4, L_4, k_4, n_4⟩, -, Xc_4, hSc_4, hgc_4, ⟨Lc_4, hQ_4, l_4, y_4, z_4⟩, st_4⟩ := callSS X_1 hx (y := (⟨"com/example/keelstone/keelstone/store/FollowUpIsEmptyPinLaw", "draw", "(II)Ljava/lang/String;"⟩ : MethodName)) ho_1 (mvT hZ_1 (own_w hw 0 rfl)) (mvT hZ_1 (own_w hw 1 rfl)) (mvT hZ_1 (own_w hw 2 rfl)) (mvT hZ_1 (own_w hw 3 rfl)) (by decide) (own_backS (J := fun vm_ => CHv Z consts_1 vm_ T_1.heap) (W := 0) (rmdraw l Z a0 hw [] p1 p3 cs T_1.heap n0 (Nat.le_trans Z0 K_3.1) (O0.keep K_3 all0) Scs hcs) hZ_1 (own_w hw 3 rfl) (own_w hw 2 rfl) (by decide) (by decide)) (g := (mkF m 11 #[.val (.int p1), .val (.int p2), .val (.int p3), .val (.int p4), .val (.int p5), .val u_2, .unset, .unset, .unset, .unset, .unset, .unset, .unset] [(.int p3), (.int p1)])) rfl (by rw [hml]; rfl) (argsL := [(.int p1), (.int p3)]) (rest := []) (lenOf pd_7 rfl) rfl (by show 2 * 0 + _ ≤ _; exact Nat.le_of_eq rfl) (hb hby at_11) (fun _ hW1 => ⟨rfl, rfl, (own_CHstay J_1 hZ_1 (own_EW hw) hW1), (by decide : 4 + 4 ≤ _), (by decide : 8 + 8 ≤ _)⟩)
  dsimp only [Pt.U, Pt.locs, Pt.cells, Pt.slots] at Xc_4 hSc_4 hgc_4 l_4 y_4 z_4 st_4 hQ_4
  subst l_4 y_4 z_4
  obtain ⟨X_4, hS_4, hZ_4, ho_4⟩ := rebS hS_1 (Nat.le_refl _) Xc_4 hSc_4 hgc_4 hZ_1 ho_1
  obtain ⟨u_5, rfl, Nq_4, K_4q, q_4_0, q_4_1, J_4⟩ := hQ_4
  have N_4 := Fr.app N_1 Nq_4
  refine own_via (fun _ k => st_4.trans k) ?_
  show own_Go p e below _ (T_4.setTop (mkF m 14 #[.val (.int p1), .val (.int p2), .val (.int p3), .val (.int p4), .val (.int p5), .val u_2, .unset, .unset, .unset, .unset, .unset, .unset, .unset] [u_5]))
  refine own_via (fun _ => XS.astore X_4.here hx rfl (hb hby at_14) rfl q_4_0 (l' := #[.val (.int p1), .val (.int p2), .val (.int p3), .val (.int p4), .val (.int p5), .val u_2, .val u_5, .unset, .unset, .unset, .unset, .unset, .unset]) (by rcases ref_cases q_4_0 with rfl | ⟨y, rfl⟩ <;> rfl)) ?_
  show own_Go p e below _ (T_4.setTop (mkF m 16 #[.val (.int p1), .val (.int p2), .val (.int p3), .val (.int p4), .val (.int p5), .val u_2, .val u_5, .unset, .unset, .unset, .unset, .unset, .unset] []))
  refine own_via (fun _ => XS.iloadN X_4.here hx rfl (hb hby at_16) rfl) ?_
  show own_Go p e below _ (T_4.setTop (mkF m 17 #[.val (.int p1), .val (.int p2), .val (.int p3), .val (.int p4), .val (.int p5), .val u_2, .val u_5, .unset, .unset, .unset, .unset, .unset, .unset] [(.int p1)]))
  refine own_via (fun _ => XS.iconst X_4.here hx rfl (hb hby at_17)) ?_
  show own_Go p e below _ (T_4.setTop (mkF m 18 #[.val (.int p1), .val (.int p2), .val (.int p3), .val (.int p4), .val (.int p5), .val u_2, .val u_5, .unset, .unset, .unset, .unset, .unset, .unset] [(.int (2 : Int32)), (.int p1)]))
  refine own_via (fun _ => XS.iushr X_4.here hx rfl (hb hby at_18) rfl) ?_
  show own_Go p e below _ (T_4.setTop (mkF m 19 #[.val (.int p1), .val (.int p2), .val (.int p3), .val (.int p4), .val (.int p5), .val u_2, .val u_5, .unset, .unset, .unset, .unset, .unset, .unset] [(.int ((p1.toUInt32 >>> ((2 : Int32) &&& 31).toUInt32).toInt32))]))
  refine own_via (fun _ => XS.iloadN X_4.here hx rfl (hb hby at_19) rfl) ?_
  show own_Go p e below _ (T_4.setTop (mkF m 20 #[.val (.int p1), .val (.int p2), .val (.int p3), .val (.int p4), .val (.int p5), .val u_2, .val u_5, .unset, .unset, .unset, .unset, .unset, .unset] [(.int p4), (.int ((p1.toUInt32 >>> ((2 : Int32) &&& 31).toUInt32).toInt32))]))
  have K_6 : Keep h0 T_4.heap [] := Keep.trans (ws := []) K_3 K_4q all0
  obtain ⟨_, _, ⟨T_7, L_7, k_7, n_7⟩, -, Xc_7, hSc_7, hgc_7, ⟨Lc_7, hQ_7, l_7, y_7, z_7⟩, st_7⟩ := callSS X_4 hx (y := (⟨"com/example/keelstone/keelstone/store/FollowUpIsEmptyPinLaw", "draw", "(II)Ljava/lang/String;"⟩ : MethodName)) ho_4 (mvT hZ_4 (own_w hw 0 rfl)) (mvT hZ_4 (own_w hw 1 rfl)) (mvT hZ_4 (own_w hw 2 rfl)) (mvT hZ_4 (own_w hw 3 rfl)) (by decide) (own_backS (J := fun vm_ => CHv Z consts_1 vm_ T_4.heap) (W := 0) (rmdraw l Z a0 hw [] ((p1.toUInt32 >>> ((2 : Int32) &&& 31).toUInt32).toInt32) p4 cs T_4.heap n0 (Nat.le_trans Z0 K_6.1) (O0.keep K_6 all0) Scs hcs) hZ_4 (own_w hw 3 rfl) (own_w hw 2 rfl) (by decide) (by decide)) (g := (mkF m 20 #[.val (.int p1), .val (.int p2), .val (.int p3), .val (.int p4), .val (.int p5), .val u_2, .val u_5, .unset, .unset, .unset, .unset, .unset, .unset] [(.int p4), (.int ((p1.toUInt32 >>> ((2 : Int32) &&& 31).toUInt32).toInt32))])) rfl (by rw [hml]; rfl) (argsL := [(.int ((p1.toUInt32 >>> ((2 : Int32) &&& 31).toUInt32).toInt32)), (.int p4)]) (rest := []) (lenOf pd_7 rfl) rfl (by show 2 * 0 + _ ≤ _; exact Nat.le_of_eq rfl) (hb hby at_20) (fun _ hW1 => ⟨rfl, rfl, (own_CHstay J_4 hZ_4 (own_EW hw) hW1), (by decide : 8 + 4 ≤ _), (by decide : 16 + 8 ≤ _)⟩)
  dsimp only [Pt.U, Pt.locs, Pt.cells, Pt.slots] at Xc_7 hSc_7 hgc_7 l_7 y_7 z_7 st_7 hQ_7
  subst l_7 y_7 z_7
  obtain ⟨X_7, hS_7, hZ_7, ho_7⟩ := rebS hS_4 (Nat.le_refl _) Xc_7 hSc_7 hgc_7 hZ_4 ho_4
  obtain ⟨u_8, rfl, Nq_7, K_7q, q_7_0, q_7_1, J_7⟩ := hQ_7
  have N_7 := Fr.app N_4 Nq_7
  refine own_via (fun _ k => st_7.trans k) ?_
  show own_Go p e below _ (T_7.setTop (mkF m 23 #[.val (.int p1), .val (.int p2), .val (.int p3), .val (.int p4), .val (.int p5), .val u_2, .val u_5, .unset, .unset, .unset, .unset, .unset, .unset] [u_8]))
  refine own_via (fun _ => XS.astore X_7.here hx rfl (hb hby at_23) rfl q_7_0 (l' := #[.val (.int p1), .val (.int p2), .val (.int p3), .val (.int p4), .val (.int p5), .val u_2, .val u_5, .val u_8, .unset, .unset, .unset, .unset, .unset]) (by rcases ref_cases q_7_0 with rfl | ⟨y, rfl⟩ <;> rfl)) ?_
  show own_Go p e below _ (T_7.setTop (mkF m 25 #[.val (.int p1), .val (.int p2), .val (.int p3), .val (.int p4), .val (.int p5), .val u_2, .val u_5, .val u_8, .unset, .unset, .unset, .unset, .unset] []))
  refine own_via (fun _ => XS.aconstNull X_7.here hx rfl (hb hby at_25)) ?_
  show own_Go p e below _ (T_7.setTop (mkF m 26 #[.val (.int p1), .val (.int p2), .val (.int p3), .val (.int p4), .val (.int p5), .val u_2, .val u_5, .val u_8, .unset, .unset, .unset, .unset, .unset] [.null]))
  refine own_via (fun _ => XS.astore X_7.here hx rfl (hb hby at_26) rfl rfl (l' := #[.val (.int p1), .val (.int p2), .val (.int p3), .val (.int p4), .val (.int p5), .val u_2, .val u_5, .val u_8, .val .null, .unset, .unset, .unset, .unset]) rfl) ?_
  show own_Go p e below _ (T_7.setTop (mkF m 28 #[.val (.int p1), .val (.int p2), .val (.int p3), .val (.int p4), .val (.int p5), .val u_2, .val u_5, .val u_8, .val .null, .unset, .unset, .unset, .unset] []))
  refine own_via (fun _ => XS.iloadN X_7.here hx rfl (hb hby at_28) rfl) ?_
  show own_Go p e below _ (T_7.setTop (mkF m 29 #[.val (.int p1), .val (.int p2), .val (.int p3), .val (.int p4), .val (.int p5), .val u_2, .val u_5, .val u_8, .val .null, .unset, .unset, .unset, .unset] [(.int p1)]))
  refine own_via (fun _ => XS.bipush X_7.here hx rfl (hb hby at_29)) ?_
  show own_Go p e below _ (T_7.setTop (mkF m 31 #[.val (.int p1), .val (.int p2), .val (.int p3), .val (.int p4), .val (.int p5), .val u_2, .val u_5, .val u_8, .val .null, .unset, .unset, .unset, .unset] [(.int (64 : Int32)), (.int p1)]))
  refine own_via (fun _ => XS.iand X_7.here hx rfl (hb hby at_31) rfl) ?_
  show own_Go p e below _ (T_7.setTop (mkF m 32 #[.val (.int p1), .val (.int p2), .val (.int p3), .val (.int p4), .val (.int p5), .val u_2, .val u_5, .val u_8, .val .null, .unset, .unset, .unset, .unset] [(.int (p1 &&& (64 : Int32)))]))
  by_cases h64 : (p1 &&& (64 : Int32)) = (0 : Int32)
  · refine own_via (fun _ => XS.ifNo X_7.here hx rfl (hb hby at_32) rfl ((if0 _ _).trans (teq (h64 : (p1 &&& (64 : Int32)) = (0 : Int32))).2)) ?_
    show own_Go p e below _ (T_7.setTop (mkF m 35 #[.val (.int p1), .val (.int p2), .val (.int p3), .val (.int p4), .val (.int p5), .val u_2, .val u_5, .val u_8, .val .null, .unset, .unset, .unset, .unset] []))
    refine own_via (fun _ => XS.iconst X_7.here hx rfl (hb hby at_35)) ?_
    show own_Go p e below _ (T_7.setTop (mkF m 36 #[.val (.int p1), .val (.int p2), .val (.int p3), .val (.int p4), .val (.int p5), .val u_2, .val u_5, .val u_8, .val .null, .unset, .unset, .unset, .unset] [(.int (1 : Int32))]))
    obtain ⟨T_9, h_9, k_9, X_9, e_9, E_9, A_9, st_9⟩ := newP X_7 hx hZ_7 (own_w hw 19 rfl) rfl (g := (mkF m 36 #[.val (.int p1), .val (.int p2), .val (.int p3), .val (.int p4), .val (.int p5), .val u_2, .val u_5, .val u_8, .val .null, .unset, .unset, .unset, .unset] [(.int (1 : Int32))])) rfl (hb hby at_36) rfl (by decide) (cap := 1) (by decide) (by decide) (by decide) (by decide)
    obtain ⟨b_9, g_9⟩ : ∃ z, z = T_7.heap.size := ⟨_, rfl⟩
    rw [← g_9] at A_9 st_9
    have V_9 : Arv Z h_9 b_9 k_9 .byte (1 : Int32) [(.int (0 : Int32))] (.int (0 : Int32)) := (Arv.new A_9 (by decide)).pad (pad_rep [] (.int (0 : Int32)) 1)
    refine own_via st_9 ?_
    show own_Go p e below _ (T_9.setTop (mkF m 38 #[.val (.int p1), .val (.int p2), .val (.int p3), .val (.int p4), .val (.int p5), .val u_2, .val u_5, .val u_8, .val .null, .unset, .unset, .unset, .unset] [(.ref b_9)]))
    refine own_via (fun _ => XS.dup X_9.here hx rfl (hb hby at_38) rfl rfl) ?_
    show own_Go p e below _ (T_9.setTop (mkF m 39 #[.val (.int p1), .val (.int p2), .val (.int p3), .val (.int p4), .val (.int p5), .val u_2, .val u_5, .val u_8, .val .null, .unset, .unset, .unset, .unset] [(.ref b_9), (.ref b_9)]))
    refine own_via (fun _ => XS.iconst X_9.here hx rfl (hb hby at_39)) ?_
    show own_Go p e below _ (T_9.setTop (mkF m 40 #[.val (.int p1), .val (.int p2), .val (.int p3), .val (.int p4), .val (.int p5), .val u_2, .val u_5, .val u_8, .val .null, .unset, .unset, .unset, .unset] [(.int (0 : Int32)), (.ref b_9), (.ref b_9)]))
    refine own_via (fun _ => XS.iload X_9.here hx rfl (hb hby at_40) rfl) ?_
    show own_Go p e below _ (T_9.setTop (mkF m 42 #[.val (.int p1), .val (.int p2), .val (.int p3), .val (.int p4), .val (.int p5), .val u_2, .val u_5, .val u_8, .val .null, .unset, .unset, .unset, .unset] [(.int p5), (.int (0 : Int32)), (.ref b_9), (.ref b_9)]))
    refine own_via (fun _ => XS.i2b X_9.here hx rfl (hb hby at_42) rfl) ?_
    show own_Go p e below _ (T_9.setTop (mkF m 43 #[.val (.int p1), .val (.int p2), .val (.int p3), .val (.int p4), .val (.int p5), .val u_2, .val u_5, .val u_8, .val .null, .unset, .unset, .unset, .unset] [(.int (p5.toInt8.toInt32)), (.int (0 : Int32)), (.ref b_9), (.ref b_9)]))
    obtain ⟨cl_10, Ar_10, q_10, S_10, M_10, H_10, G_10⟩ := V_9
    obtain ⟨T_10, h_10, X_10, e_10, W_10, st_10⟩ := stB X_9 hx hZ_7 e_9 Ar_10 (j := (0 : Int32)) (inb_of S_10 ⟨by decide, by decide⟩) (g := (mkF m 43 #[.val (.int p1), .val (.int p2), .val (.int p3), .val (.int p4), .val (.int p5), .val u_2, .val u_5, .val u_8, .val .null, .unset, .unset, .unset, .unset] [(.int (p5.toInt8.toInt32)), (.int (0 : Int32)), (.ref b_9), (.ref b_9)])) rfl rfl (hb hby at_43)
    have V_10 : Arv Z h_10 b_9 k_9 .byte (1 : Int32) [(.int (nar .byte (p5.toInt8.toInt32)))] (.int (0 : Int32)) := Arv.set Ar_10 q_10 S_10 M_10 H_10 G_10 (fits_nar_byte _) W_10 0 rfl (Nat.le_of_ble_eq_true rfl)
    have K_11 : Keep h0 T_7.heap [] := Keep.trans (ws := []) K_6 K_7q all0
    have N_10 := Fr.snoc X_10 N_7 (Nat.le_trans Z0 (Nat.le_trans K_11.1 (Nat.le_of_eq g_9.symm)))
    refine own_via st_10 ?_
    show own_Go p e below _ (T_10.setTop (mkF m 44 #[.val (.int p1), .val (.int p2), .val (.int p3), .val (.int p4), .val (.int p5), .val u_2, .val u_5, .val u_8, .val .null, .unset, .unset, .unset, .unset] [(.ref b_9)]))
    refine own_via (fun _ => XS.astore X_10.here hx rfl (hb hby at_44) rfl rfl (l' := #[.val (.int p1), .val (.int p2), .val (.int p3), .val (.int p4), .val (.int p5), .val u_2, .val u_5, .val u_8, .val (.ref b_9), .unset, .unset, .unset, .unset]) rfl) ?_
    show own_Go p e below _ (T_10.setTop (mkF m 46 #[.val (.int p1), .val (.int p2), .val (.int p3), .val (.int p4), .val (.int p5), .val u_2, .val u_5, .val u_8, .val (.ref b_9), .unset, .unset, .unset, .unset] []))
    refine own_via (fun _ => XS.iloadN X_10.here hx rfl (hb hby at_46) rfl) ?_
    show own_Go p e below _ (T_10.setTop (mkF m 47 #[.val (.int p1), .val (.int p2), .val (.int p3), .val (.int p4), .val (.int p5), .val u_2, .val u_5, .val u_8, .val (.ref b_9), .unset, .unset, .unset, .unset] [(.int p1)]))
    refine own_via (fun _ => XS.iconst X_10.here hx rfl (hb hby at_47)) ?_
    show own_Go p e below _ (T_10.setTop (mkF m 48 #[.val (.int p1), .val (.int p2), .val (.int p3), .val (.int p4), .val (.int p5), .val u_2, .val u_5, .val u_8, .val (.ref b_9), .unset, .unset, .unset, .unset] [(.int (1 : Int32)), (.int p1)]))
    refine own_via (fun _ => XS.iand X_10.here hx rfl (hb hby at_48) rfl) ?_
    show own_Go p e below _ (T_10.setTop (mkF m 49 #[.val (.int p1), .val (.int p2), .val (.int p3), .val (.int p4), .val (.int p5), .val u_2, .val u_5, .val u_8, .val (.ref b_9), .unset, .unset, .unset, .unset] [(.int (p1 &&& (1 : Int32)))]))
    obtain ⟨z_12, ez_12⟩ : ∃ z : Int32, z = (if (p1 &&& (1 : Int32)) = (0 : Int32) then (0 : Int32) else (1 : Int32)) := ⟨_, rfl⟩
    refine own_seq (B := T_10.setTop (mkF m 57 #[.val (.int p1), .val (.int p2), .val (.int p3), .val (.int p4), .val (.int p5), .val u_2, .val u_5, .val u_8, .val (.ref b_9), .unset, .unset, .unset, .unset] [(.int z_12)])) (fun kz => ?_) ?_
    · by_cases hv_13 : (p1 &&& (1 : Int32)) = (0 : Int32)
      · refine own_via (fun _ => XS.ifYes X_10.here hx rfl (pc0 := 49) (pc' := 56) rfl (hb hby at_49) rfl ((if0 _ _).trans (teq (hv_13 : (p1 &&& (1 : Int32)) = (0 : Int32))).1) (by decide) (by decide)) ?_
        show own_Go p e below _ (T_10.setTop (mkF m 56 #[.val (.int p1), .val (.int p2), .val (.int p3), .val (.int p4), .val (.int p5), .val u_2, .val u_5, .val u_8, .val (.ref b_9), .unset, .unset, .unset, .unset] []))
        refine own_via (fun _ => XS.iconst X_10.here hx rfl (hb hby at_56)) ?_
        show own_Go p e below _ (T_10.setTop (mkF m 57 #[.val (.int p1), .val (.int p2), .val (.int p3), .val (.int p4), .val (.int p5), .val u_2, .val u_5, .val u_8, .val (.ref b_9), .unset, .unset, .unset, .unset] [(.int (0 : Int32))]))
        rw [if_pos hv_13] at ez_12
        subst ez_12
        exact kz
      · refine own_via (fun _ => XS.ifNo X_10.here hx rfl (hb hby at_49) rfl ((if0 _ _).trans (feq (hv_13 : ¬ ((p1 &&& (1 : Int32)) = (0 : Int32)))).1)) ?_
        show own_Go p e below _ (T_10.setTop (mkF m 52 #[.val (.int p1), .val (.int p2), .val (.int p3), .val (.int p4), .val (.int p5), .val u_2, .val u_5, .val u_8, .val (.ref b_9), .unset, .unset, .unset, .unset] []))
        refine own_via (fun _ => XS.iconst X_10.here hx rfl (hb hby at_52)) ?_
        show own_Go p e below _ (T_10.setTop (mkF m 53 #[.val (.int p1), .val (.int p2), .val (.int p3), .val (.int p4), .val (.int p5), .val u_2, .val u_5, .val u_8, .val (.ref b_9), .unset, .unset, .unset, .unset] [(.int (1 : Int32))]))
        refine own_via (fun _ => XS.goto X_10.here hx rfl (pc0 := 53) (pc' := 57) rfl (hb hby at_53) (by decide) (by decide)) ?_
        show own_Go p e below _ (T_10.setTop (mkF m 57 #[.val (.int p1), .val (.int p2), .val (.int p3), .val (.int p4), .val (.int p5), .val u_2, .val u_5, .val u_8, .val (.ref b_9), .unset, .unset, .unset, .unset] [(.int (1 : Int32))]))
        rw [if_neg hv_13] at ez_12
        subst ez_12
        exact kz
    show own_Go p e below _ (T_10.setTop (mkF m 57 #[.val (.int p1), .val (.int p2), .val (.int p3), .val (.int p4), .val (.int p5), .val u_2, .val u_5, .val u_8, .val (.ref b_9), .unset, .unset, .unset, .unset] [(.int z_12)]))
    refine own_via (fun _ => XS.istore X_10.here hx rfl (hb hby at_57) rfl (l' := #[.val (.int p1), .val (.int p2), .val (.int p3), .val (.int p4), .val (.int p5), .val u_2, .val u_5, .val u_8, .val (.ref b_9), .val (.int z_12), .unset, .unset, .unset]) rfl) ?_
    show own_Go p e below _ (T_10.setTop (mkF m 59 #[.val (.int p1), .val (.int p2), .val (.int p3), .val (.int p4), .val (.int p5), .val u_2, .val u_5, .val u_8, .val (.ref b_9), .val (.int z_12), .unset, .unset, .unset] []))
    refine own_via (fun _ => XS.iloadN X_10.here hx rfl (hb hby at_59) rfl) ?_
    show own_Go p e below _ (T_10.setTop (mkF m 60 #[.val (.int p1), .val (.int p2), .val (.int p3), .val (.int p4), .val (.int p5), .val u_2, .val u_5, .val u_8, .val (.ref b_9), .val (.int z_12), .unset, .unset, .unset] [(.int p1)]))
    refine own_via (fun _ => XS.iconst X_10.here hx rfl (hb hby at_60)) ?_
    show own_Go p e below _ (T_10.setTop (mkF m 61 #[.val (.int p1), .val (.int p2), .val (.int p3), .val (.int p4), .val (.int p5), .val u_2, .val u_5, .val u_8, .val (.ref b_9), .val (.int z_12), .unset, .unset, .unset] [(.int (2 : Int32)), (.int p1)]))
    refine own_via (fun _ => XS.iushr X_10.here hx rfl (hb hby at_61) rfl) ?_
    show own_Go p e below _ (T_10.setTop (mkF m 62 #[.val (.int p1), .val (.int p2), .val (.int p3), .val (.int p4), .val (.int p5), .val u_2, .val u_5, .val u_8, .val (.ref b_9), .val (.int z_12), .unset, .unset, .unset] [(.int ((p1.toUInt32 >>> ((2 : Int32) &&& 31).toUInt32).toInt32))]))
    refine own_via (fun _ => XS.iconst X_10.here hx rfl (hb hby at_62)) ?_
    show own_Go p e below _ (T_10.setTop (mkF m 63 #[.val (.int p1), .val (.int p2), .val (.int p3), .val (.int p4), .val (.int p5), .val u_2, .val u_5, .val u_8, .val (.ref b_9), .val (.int z_12), .unset, .unset, .unset] [(.int (1 : Int32)), (.int ((p1.toUInt32 >>> ((2 : Int32) &&& 31).toUInt32).toInt32))]))
    refine own_via (fun _ => XS.iand X_10.here hx rfl (hb hby at_63) rfl) ?_
    show own_Go p e below _ (T_10.setTop (mkF m 64 #[.val (.int p1), .val (.int p2), .val (.int p3), .val (.int p4), .val (.int p5), .val u_2, .val u_5, .val u_8, .val (.ref b_9), .val (.int z_12), .unset, .unset, .unset] [(.int (((p1.toUInt32 >>> ((2 : Int32) &&& 31).toUInt32).toInt32) &&& (1 : Int32)))]))
    obtain ⟨z_14, ez_14⟩ : ∃ z : Int32, z = (if (((p1.toUInt32 >>> ((2 : Int32) &&& 31).toUInt32).toInt32) &&& (1 : Int32)) = (0 : Int32) then (0 : Int32) else (1 : Int32)) := ⟨_, rfl⟩
    refine own_seq (B := T_10.setTop (mkF m 72 #[.val (.int p1), .val (.int p2), .val (.int p3), .val (.int p4), .val (.int p5), .val u_2, .val u_5, .val u_8, .val (.ref b_9), .val (.int z_12), .unset, .unset, .unset] [(.int z_14)])) (fun kz => ?_) ?_
    · by_cases hv_15 : (((p1.toUInt32 >>> ((2 : Int32) &&& 31).toUInt32).toInt32) &&& (1 : Int32)) = (0 : Int32)
      · refine own_via (fun _ => XS.ifYes X_10.here hx rfl (pc0 := 64) (pc' := 71) rfl (hb hby at_64) rfl ((if0 _ _).trans (teq (hv_15 : (((p1.toUInt32 >>> ((2 : Int32) &&& 31).toUInt32).toInt32) &&& (1 : Int32)) = (0 : Int32))).1) (by decide) (by decide)) ?_
        show own_Go p e below _ (T_10.setTop (mkF m 71 #[.val (.int p1), .val (.int p2), .val (.int p3), .val (.int p4), .val (.int p5), .val u_2, .val u_5, .val u_8, .val (.ref b_9), .val (.int z_12), .unset, .unset, .unset] []))
        refine own_via (fun _ => XS.iconst X_10.here hx rfl (hb hby at_71)) ?_
        show own_Go p e below _ (T_10.setTop (mkF m 72 #[.val (.int p1), .val (.int p2), .val (.int p3), .val (.int p4), .val (.int p5), .val u_2, .val u_5, .val u_8, .val (.ref b_9), .val (.int z_12), .unset, .unset, .unset] [(.int (0 : Int32))]))
        rw [if_pos hv_15] at ez_14
        subst ez_14
        exact kz
      · refine own_via (fun _ => XS.ifNo X_10.here hx rfl (hb hby at_64) rfl ((if0 _ _).trans (feq (hv_15 : ¬ ((((p1.toUInt32 >>> ((2 : Int32) &&& 31).toUInt32).toInt32) &&& (1 : Int32)) = (0 : Int32)))).1)) ?_
        show own_Go p e below _ (T_10.setTop (mkF m 67 #[.val (.int p1), .val (.int p2), .val (.int p3), .val (.int p4), .val (.int p5), .val u_2, .val u_5, .val u_8, .val (.ref b_9), .val (.int z_12), .unset, .unset, .unset] []))
        refine own_via (fun _ => XS.iconst X_10.here hx rfl (hb hby at_67)) ?_
        show own_Go p e below _ (T_10.setTop (mkF m 68 #[.val (.int p1), .val (.int p2), .val (.int p3), .val (.int p4), .val (.int p5), .val u_2, .val u_5, .val u_8, .val (.ref b_9), .val (.int z_12), .unset, .unset, .unset] [(.int (1 : Int32))]))
        refine own_via (fun _ => XS.goto X_10.here hx rfl (pc0 := 68) (pc' := 72) rfl (hb hby at_68) (by decide) (by decide)) ?_
        show own_Go p e below _ (T_10.setTop (mkF m 72 #[.val (.int p1), .val (.int p2), .val (.int p3), .val (.int p4), .val (.int p5), .val u_2, .val u_5, .val u_8, .val (.ref b_9), .val (.int z_12), .unset, .unset, .unset] [(.int (1 : Int32))]))
        rw [if_neg hv_15] at ez_14
        subst ez_14
        exact kz
    show own_Go p e below _ (T_10.setTop (mkF m 72 #[.val (.int p1), .val (.int p2), .val (.int p3), .val (.int p4), .val (.int p5), .val u_2, .val u_5, .val u_8, .val (.ref b_9), .val (.int z_12), .unset, .unset, .unset] [(.int z_14)]))
    refine own_via (fun _ => XS.istore X_10.here hx rfl (hb hby at_72) rfl (l' := #[.val (.int p1), .val (.int p2), .val (.int p3), .val (.int p4), .val (.int p5), .val u_2, .val u_5, .val u_8, .val (.ref b_9), .val (.int z_12), .val (.int z_14), .unset, .unset]) rfl) ?_
    show own_Go p e below _ (T_10.setTop (mkF m 74 #[.val (.int p1), .val (.int p2), .val (.int p3), .val (.int p4), .val (.int p5), .val u_2, .val u_5, .val u_8, .val (.ref b_9), .val (.int z_12), .val (.int z_14), .unset, .unset] []))
    refine own_via (fun _ => XS.iload X_10.here hx rfl (hb hby at_74) rfl) ?_
    show own_Go p e below _ (T_10.setTop (mkF m 76 #[.val (.int p1), .val (.int p2), .val (.int p3), .val (.int p4), .val (.int p5), .val u_2, .val u_5, .val u_8, .val (.ref b_9), .val (.int z_12), .val (.int z_14), .unset, .unset] [(.int z_12)]))
    obtain ⟨z_16, ez_16⟩ : ∃ z : Int32, z = (if z_12 = (0 : Int32) then (0 : Int32) else (if z_14 = (0 : Int32) then (0 : Int32) else (1 : Int32))) := ⟨_, rfl⟩
    refine own_seq (B := T_10.setTop (mkF m 89 #[.val (.int p1), .val (.int p2), .val (.int p3), .val (.int p4), .val (.int p5), .val u_2, .val u_5, .val u_8, .val (.ref b_9), .val (.int z_12), .val (.int z_14), .unset, .unset] [(.int z_16)])) (fun kz => ?_) ?_
    · by_cases hv_17 : z_12 = (0 : Int32)
      · refine own_via (fun _ => XS.ifYes X_10.here hx rfl (pc0 := 76) (pc' := 88) rfl (hb hby at_76) rfl ((if0 _ _).trans (teq (hv_17 : z_12 = (0 : Int32))).1) (by decide) (by decide)) ?_
        show own_Go p e below _ (T_10.setTop (mkF m 88 #[.val (.int p1), .val (.int p2), .val (.int p3), .val (.int p4), .val (.int p5), .val u_2, .val u_5, .val u_8, .val (.ref b_9), .val (.int z_12), .val (.int z_14), .unset, .unset] []))
        refine own_via (fun _ => XS.iconst X_10.here hx rfl (hb hby at_88)) ?_
        show own_Go p e below _ (T_10.setTop (mkF m 89 #[.val (.int p1), .val (.int p2), .val (.int p3), .val (.int p4), .val (.int p5), .val u_2, .val u_5, .val u_8, .val (.ref b_9), .val (.int z_12), .val (.int z_14), .unset, .unset] [(.int (0 : Int32))]))
        rw [if_pos hv_17] at ez_16
        subst ez_16
        exact kz
      · refine own_via (fun _ => XS.ifNo X_10.here hx rfl (hb hby at_76) rfl ((if0 _ _).trans (feq (hv_17 : ¬ (z_12 = (0 : Int32)))).1)) ?_
        show own_Go p e below _ (T_10.setTop (mkF m 79 #[.val (.int p1), .val (.int p2), .val (.int p3), .val (.int p4), .val (.int p5), .val u_2, .val u_5, .val u_8, .val (.ref b_9), .val (.int z_12), .val (.int z_14), .unset, .unset] []))
        refine own_via (fun _ => XS.iload X_10.here hx rfl (hb hby at_79) rfl) ?_
        show own_Go p e below _ (T_10.setTop (mkF m 81 #[.val (.int p1), .val (.int p2), .val (.int p3), .val (.int p4), .val (.int p5), .val u_2, .val u_5, .val u_8, .val (.ref b_9), .val (.int z_12), .val (.int z_14), .unset, .unset] [(.int z_14)]))
        by_cases hv_18 : z_14 = (0 : Int32)
        · refine own_via (fun _ => XS.ifYes X_10.here hx rfl (pc0 := 81) (pc' := 88) rfl (hb hby at_81) rfl ((if0 _ _).trans (teq (hv_18 : z_14 = (0 : Int32))).1) (by decide) (by decide)) ?_
          show own_Go p e below _ (T_10.setTop (mkF m 88 #[.val (.int p1), .val (.int p2), .val (.int p3), .val (.int p4), .val (.int p5), .val u_2, .val u_5, .val u_8, .val (.ref b_9), .val (.int z_12), .val (.int z_14), .unset, .unset] []))
          refine own_via (fun _ => XS.iconst X_10.here hx rfl (hb hby at_88)) ?_
          show own_Go p e below _ (T_10.setTop (mkF m 89 #[.val (.int p1), .val (.int p2), .val (.int p3), .val (.int p4), .val (.int p5), .val u_2, .val u_5, .val u_8, .val (.ref b_9), .val (.int z_12), .val (.int z_14), .unset, .unset] [(.int (0 : Int32))]))
          rw [if_neg hv_17] at ez_16
          rw [if_pos hv_18] at ez_16
          subst ez_16
          exact kz
        · refine own_via (fun _ => XS.ifNo X_10.here hx rfl (hb hby at_81) rfl ((if0 _ _).trans (feq (hv_18 : ¬ (z_14 = (0 : Int32)))).1)) ?_
          show own_Go p e below _ (T_10.setTop (mkF m 84 #[.val (.int p1), .val (.int p2), .val (.int p3), .val (.int p4), .val (.int p5), .val u_2, .val u_5, .val u_8, .val (.ref b_9), .val (.int z_12), .val (.int z_14), .unset, .unset] []))
          refine own_via (fun _ => XS.iconst X_10.here hx rfl (hb hby at_84)) ?_
          show own_Go p e below _ (T_10.setTop (mkF m 85 #[.val (.int p1), .val (.int p2), .val (.int p3), .val (.int p4), .val (.int p5), .val u_2, .val u_5, .val u_8, .val (.ref b_9), .val (.int z_12), .val (.int z_14), .unset, .unset] [(.int (1 : Int32))]))
          refine own_via (fun _ => XS.goto X_10.here hx rfl (pc0 := 85) (pc' := 89) rfl (hb hby at_85) (by decide) (by decide)) ?_
          show own_Go p e below _ (T_10.setTop (mkF m 89 #[.val (.int p1), .val (.int p2), .val (.int p3), .val (.int p4), .val (.int p5), .val u_2, .val u_5, .val u_8, .val (.ref b_9), .val (.int z_12), .val (.int z_14), .unset, .unset] [(.int (1 : Int32))]))
          rw [if_neg hv_17] at ez_16
          rw [if_neg hv_18] at ez_16
          subst ez_16
          exact kz
    show own_Go p e below _ (T_10.setTop (mkF m 89 #[.val (.int p1), .val (.int p2), .val (.int p3), .val (.int p4), .val (.int p5), .val u_2, .val u_5, .val u_8, .val (.ref b_9), .val (.int z_12), .val (.int z_14), .unset, .unset] [(.int z_16)]))
    refine own_via (fun _ => XS.istore X_10.here hx rfl (hb hby at_89) rfl (l' := #[.val (.int p1), .val (.int p2), .val (.int p3), .val (.int p4), .val (.int p5), .val u_2, .val u_5, .val u_8, .val (.ref b_9), .val (.int z_12), .val (.int z_14), .val (.int z_16), .unset]) rfl) ?_
    show own_Go p e below _ (T_10.setTop (mkF m 91 #[.val (.int p1), .val (.int p2), .val (.int p3), .val (.int p4), .val (.int p5), .val u_2, .val u_5, .val u_8, .val (.ref b_9), .val (.int z_12), .val (.int z_14), .val (.int z_16), .unset] []))
    obtain ⟨T_19, h_19, X_19, e_19, E_19, A_19, D_19, -, st_19⟩ := newO X_10 hx hZ_7 ho_7 (own_w hw 26 rfl) (own_w hw 27 rfl) (own_w hw 28 rfl) e_10 (g := (mkF m 91 #[.val (.int p1), .val (.int p2), .val (.int p3), .val (.int p4), .val (.int p5), .val u_2, .val u_5, .val u_8, .val (.ref b_9), .val (.int z_12), .val (.int z_14), .val (.int z_16), .unset] [])) rfl (hb hby at_91) (by decide) (by decide)
    obtain ⟨b_19, g_19⟩ : ∃ z, z = h_10.size := ⟨_, rfl⟩
    rw [← g_19] at A_19 D_19 st_19
    have F_20 : Fld Z h_19 b_19 "com/example/keelstone/keelstone/store/FollowUp" "identifier" "Ljava/lang/String;" .null := D_19 (Or.inr (own_w hw 39 rfl)) (ty := (.object "java/lang/String")) (by decide)
    have F_21 : Fld Z h_19 b_19 "com/example/keelstone/keelstone/store/FollowUp" "seriesId" "Ljava/lang/String;" .null := D_19 (Or.inr (own_w hw 41 rfl)) (ty := (.object "java/lang/String")) (by decide)
    have F_22 : Fld Z h_19 b_19 "com/example/keelstone/keelstone/store/FollowUp" "replaced" "Ljava/lang/String;" .null := D_19 (Or.inr (own_w hw 43 rfl)) (ty := (.object "java/lang/String")) (by decide)
    have F_23 : Fld Z h_19 b_19 "com/example/keelstone/keelstone/store/FollowUp" "replacedSystemMetadata" "[B" .null := D_19 (Or.inr (own_w hw 45 rfl)) (ty := (.array .byte)) (by decide)
    refine own_via st_19 ?_
    show own_Go p e below _ (T_19.setTop (mkF m 94 #[.val (.int p1), .val (.int p2), .val (.int p3), .val (.int p4), .val (.int p5), .val u_2, .val u_5, .val u_8, .val (.ref b_9), .val (.int z_12), .val (.int z_14), .val (.int z_16), .unset] [(.ref b_19)]))
    refine own_via (fun _ => XS.dup X_19.here hx rfl (hb hby at_94) rfl rfl) ?_
    show own_Go p e below _ (T_19.setTop (mkF m 95 #[.val (.int p1), .val (.int p2), .val (.int p3), .val (.int p4), .val (.int p5), .val u_2, .val u_5, .val u_8, .val (.ref b_9), .val (.int z_12), .val (.int z_14), .val (.int z_16), .unset] [(.ref b_19), (.ref b_19)]))
    refine own_via (fun _ => XS.aload X_19.here hx rfl (hb hby at_95) rfl q_1_0) ?_
    show own_Go p e below _ (T_19.setTop (mkF m 97 #[.val (.int p1), .val (.int p2), .val (.int p3), .val (.int p4), .val (.int p5), .val u_2, .val u_5, .val u_8, .val (.ref b_9), .val (.int z_12), .val (.int z_14), .val (.int z_16), .unset] [u_2, (.ref b_19), (.ref b_19)]))
    refine own_via (fun _ => XS.aload X_19.here hx rfl (hb hby at_97) rfl q_4_0) ?_
    show own_Go p e below _ (T_19.setTop (mkF m 99 #[.val (.int p1), .val (.int p2), .val (.int p3), .val (.int p4), .val (.int p5), .val u_2, .val u_5, .val u_8, .val (.ref b_9), .val (.int z_12), .val (.int z_14), .val (.int z_16), .unset] [u_5, u_2, (.ref b_19), (.ref b_19)]))
    refine own_via (fun _ => XS.aload X_19.here hx rfl (hb hby at_99) rfl q_7_0) ?_
    show own_Go p e below _ (T_19.setTop (mkF m 101 #[.val (.int p1), .val (.int p2), .val (.int p3), .val (.int p4), .val (.int p5), .val u_2, .val u_5, .val u_8, .val (.ref b_9), .val (.int z_12), .val (.int z_14), .val (.int z_16), .unset] [u_8, u_5, u_2, (.ref b_19), (.ref b_19)]))
    refine own_via (fun _ => XS.aload X_19.here hx rfl (hb hby at_101) rfl rfl) ?_
    show own_Go p e below _ (T_19.setTop (mkF m 103 #[.val (.int p1), .val (.int p2), .val (.int p3), .val (.int p4), .val (.int p5), .val u_2, .val u_5, .val u_8, .val (.ref b_9), .val (.int z_12), .val (.int z_14), .val (.int z_16), .unset] [(.ref b_9), u_8, u_5, u_2, (.ref b_19), (.ref b_19)]))
    have K_24 : Keep h0 h_9 [] := K_11.ext E_9
    have K_25 : Keep h0 h_10 [] := Keep.wr (ws := []) K_24 W_10 (Or.inr (Nat.le_trans K_11.1 (Nat.le_of_eq g_9.symm)))
    have K_26 : Keep h0 h_19 [] := K_25.ext E_19
    obtain ⟨_, _, ⟨T_27, L_27, k_27, n_27⟩, -, X_27, ⟨Lc_27, hQ_27, l_27, y_27, z_27⟩, st_27⟩ := X_19.specialBack hx (y := (⟨"com/example/keelstone/keelstone/store/FollowUp", "<init>", "(Ljava/lang/String;Ljava/lang/String;Ljava/lang/String;[B)V"⟩ : MethodName)) rfl ho_7 (mvT hZ_7 (own_w hw 29 rfl)) (mvT hZ_7 (own_w hw 30 rfl)) (mvT hZ_7 (own_w hw 31 rfl)) (by decide) (backOf (W := 1) (rmfuInit l Z a0 hw [] b_19 u_2 u_5 u_8 (.ref b_9) h_19 n0 (Nat.le_trans Z0 K_26.1) A_19 F_20 F_21 F_22 F_23 (Nat.le_trans Z0 (Nat.le_trans K_25.1 (Nat.le_of_eq g_19.symm))) q_1_0 q_4_0 q_7_0 rfl) hZ_7 (own_w hw 31 rfl) (own_w hw 28 rfl) (by decide) (by decide)) (g := (mkF m 103 #[.val (.int p1), .val (.int p2), .val (.int p3), .val (.int p4), .val (.int p5), .val u_2, .val u_5, .val u_8, .val (.ref b_9), .val (.int z_12), .val (.int z_14), .val (.int z_16), .unset] [(.ref b_9), u_8, u_5, u_2, (.ref b_19), (.ref b_19)])) rfl (by rw [hml]; rfl) (Steps.refl _) (a := b_19) (argsL := [u_2, u_5, u_8, (.ref b_9)]) (rest := [(.ref b_19)]) (lenOf pd_8 rfl) rfl (by show 2 * 0 + _ ≤ _; exact Nat.le_of_eq rfl) (hb hby at_103) (fun _ _ => ⟨rfl, e_19, (by decide : 14 + 0 ≤ _), (by decide : 29 + 0 ≤ _)⟩)
    dsimp only [Pt.U, Pt.locs, Pt.cells, Pt.slots] at X_27 l_27 y_27 z_27 st_27 hQ_27
    subst l_27 y_27 z_27
    obtain ⟨rfl, Nq_27, K_27q, q_27_0, q_27_1⟩ := hQ_27
    have N_27 := Fr.app N_10 Nq_27
    refine own_via (fun _ k => st_27.trans k) ?_
    show own_Go p e below _ (T_27.setTop (mkF m 106 #[.val (.int p1), .val (.int p2), .val (.int p3), .val (.int p4), .val (.int p5), .val u_2, .val u_5, .val u_8, .val (.ref b_9), .val (.int z_12), .val (.int z_14), .val (.int z_16), .unset] [(.ref b_19)]))
    refine own_via (fun _ => XS.astore X_27.here hx rfl (hb hby at_106) rfl rfl (l' := #[.val (.int p1), .val (.int p2), .val (.int p3), .val (.int p4), .val (.int p5), .val u_2, .val u_5, .val u_8, .val (.ref b_9), .val (.int z_12), .val (.int z_14), .val (.int z_16), .val (.ref b_19)]) rfl) ?_
    show own_Go p e below _ (T_27.setTop (mkF m 108 #[.val (.int p1), .val (.int p2), .val (.int p3), .val (.int p4), .val (.int p5), .val u_2, .val u_5, .val u_8, .val (.ref b_9), .val (.int z_12), .val (.int z_14), .val (.int z_16), .val (.ref b_19)] []))
    refine own_via (fun _ => XS.aload X_27.here hx rfl (hb hby at_108) rfl rfl) ?_
    show own_Go p e below _ (T_27.setTop (mkF m 110 #[.val (.int p1), .val (.int p2), .val (.int p3), .val (.int p4), .val (.int p5), .val u_2, .val u_5, .val u_8, .val (.ref b_9), .val (.int z_12), .val (.int z_14), .val (.int z_16), .val (.ref b_19)] [(.ref b_19)]))
    have K_28 : Keep h0 T_27.heap [] := Keep.trans (ws := []) K_26 K_27q (allS (Or.inr (Nat.le_trans K_25.1 (Nat.le_of_eq g_19.symm))) all0)
    have K_30 : Keep h_19 T_27.heap [b_19] := Keep.trans (ws := [b_19]) (own_keep_mono (Keep.refl h_19 []) (by simp)) K_27q (allS (Or.inl (List.mem_of_getElem? (i := 0) rfl)) all0)
    obtain ⟨cq_29, kq_29, q_29a, q_29b, q_29c⟩ := isOf hZ_7 rfl (A_19.keep K_30)
    obtain ⟨_, _, ⟨T_29, L_29, k_29, n_29⟩, -, X_29, ⟨Lc_29, hQ_29, l_29, y_29, z_29⟩, st_29⟩ := X_27.virtualBack hx (y := (⟨"com/example/keelstone/keelstone/store/FollowUp", "isEmpty", "()Z"⟩ : MethodName)) (z := (⟨"com/example/keelstone/keelstone/store/FollowUp", "isEmpty", "()Z"⟩ : MethodName)) ho_7 (mvT hZ_7 (own_w hw 46 rfl)) (mvT hZ_7 (own_w hw 47 rfl)) (notFace_of_selects (args := #[]) (mvT hZ_7 (own_w hw 49 rfl))) (mvT hZ_7 (own_w hw 49 rfl)) (mvT hZ_7 (own_w hw 48 rfl)) (by decide) (backOf (W := 0) (rmisEmpty l Z a0 hw [] b_19 u_5 u_8 T_27.heap n0 (Nat.le_trans Z0 K_28.1) q_27_0 q_27_1 q_4_0 q_7_0) hZ_7 (own_w hw 50 rfl) (own_w hw 28 rfl) (by decide) (by decide)) q_29a q_29c (g := (mkF m 110 #[.val (.int p1), .val (.int p2), .val (.int p3), .val (.int p4), .val (.int p5), .val u_2, .val u_5, .val u_8, .val (.ref b_9), .val (.int z_12), .val (.int z_14), .val (.int z_16), .val (.ref b_19)] [(.ref b_19)])) rfl (by rw [hml]; rfl) (Steps.refl _) (argsL := []) (rest := []) (lenOf pd_9 rfl) rfl (by show 2 * 0 + _ ≤ _; exact Nat.le_of_eq rfl) (hb hby at_110) (fun _ _ => ⟨rfl, rfl, (by decide : 14 + 0 ≤ _), (by decide : 29 + 0 ≤ _)⟩)
    dsimp only [Pt.U, Pt.locs, Pt.cells, Pt.slots] at X_29 l_29 y_29 z_29 st_29 hQ_29
    subst l_29 y_29 z_29
    obtain ⟨i_31, rfl, Nq_29, K_29q, q_29_0⟩ := hQ_29
    have N_29 := Fr.app N_27 Nq_29
    refine own_via (fun _ k => st_29.trans k) ?_
    show own_Go p e below _ (T_29.setTop (mkF m 113 #[.val (.int p1), .val (.int p2), .val (.int p3), .val (.int p4), .val (.int p5), .val u_2, .val u_5, .val u_8, .val (.ref b_9), .val (.int z_12), .val (.int z_14), .val (.int z_16), .val (.ref b_19)] [(.int i_31)]))
    refine own_via (fun _ => XS.iload X_29.here hx rfl (hb hby at_113) rfl) ?_
    show own_Go p e below _ (T_29.setTop (mkF m 115 #[.val (.int p1), .val (.int p2), .val (.int p3), .val (.int p4), .val (.int p5), .val u_2, .val u_5, .val u_8, .val (.ref b_9), .val (.int z_12), .val (.int z_14), .val (.int z_16), .val (.ref b_19)] [(.int z_16), (.int i_31)]))
    refine own_via (fun _ => XS.icmpNo X_29.here hx rfl (hb hby at_115) rfl (teq (own_fin q_4_1 q_7_1 ez_12 ez_14 ez_16 q_29_0 : i_31 = z_16)).2) ?_
    show own_Go p e below _ (T_29.setTop (mkF m 118 #[.val (.int p1), .val (.int p2), .val (.int p3), .val (.int p4), .val (.int p5), .val u_2, .val u_5, .val u_8, .val (.ref b_9), .val (.int z_12), .val (.int z_14), .val (.int z_16), .val (.ref b_19)] []))
    refine own_via (fun _ => XS.iconst X_29.here hx rfl (hb hby at_118)) ?_
    show own_Go p e below _ (T_29.setTop (mkF m 119 #[.val (.int p1), .val (.int p2), .val (.int p3), .val (.int p4), .val (.int p5), .val u_2, .val u_5, .val u_8, .val (.ref b_9), .val (.int z_12), .val (.int z_14), .val (.int z_16), .val (.ref b_19)] [(.int (1 : Int32))]))
    refine own_via (fun _ => XS.goto X_29.here hx rfl (pc0 := 119) (pc' := 123) rfl (hb hby at_119) (by decide) (by decide)) ?_
    show own_Go p e below _ (T_29.setTop (mkF m 123 #[.val (.int p1), .val (.int p2), .val (.int p3), .val (.int p4), .val (.int p5), .val u_2, .val u_5, .val u_8, .val (.ref b_9), .val (.int z_12), .val (.int z_14), .val (.int z_16), .val (.ref b_19)] [(.int (1 : Int32))]))
    have K_32 : Keep h0 T_29.heap [] := Keep.trans (ws := []) K_28 K_29q all0
    have K_33 : Keep T_7.heap h_9 [] := (Keep.refl T_7.heap []).ext E_9
    have K_34 : Keep T_7.heap h_10 [] := Keep.wr (ws := []) K_33 W_10 (Or.inr (Nat.le_of_eq g_9.symm))
    have K_35 : Keep T_7.heap h_19 [] := K_34.ext E_19
    have K_36 : Keep T_7.heap T_27.heap [] := Keep.trans (ws := []) K_35 K_27q (allS (Or.inr (Nat.le_trans K_34.1 (Nat.le_of_eq g_19.symm))) all0)
    have K_37 : Keep T_7.heap T_29.heap [] := Keep.trans (ws := []) K_36 K_29q all0
    exact own_retvW X_29 hS_7 (Nat.le_trans (Nat.le_refl _) K_37.1) Bd.notSynchronized hx Bd.returns rfl (Or.inl ⟨rfl, (by simp), _, rfl⟩) (hb hby at_123) (by decide) (by decide) ⟨rfl, N_29, K_32⟩
  · refine own_via (fun _ => XS.ifYes X_7.here hx rfl (pc0 := 32) (pc' := 46) rfl (hb hby at_32) rfl ((if0 _ _).trans (feq (h64 : ¬ ((p1 &&& (64 : Int32)) = (0 : Int32)))).2) (by decide) (by decide)) ?_
    show own_Go p e below _ (T_7.setTop (mkF m 46 #[.val (.int p1), .val (.int p2), .val (.int p3), .val (.int p4), .val (.int p5), .val u_2, .val u_5, .val u_8, .val .null, .unset, .unset, .unset, .unset] []))
    refine own_via (fun _ => XS.iloadN X_7.here hx rfl (hb hby at_46) rfl) ?_
    show own_Go p e below _ (T_7.setTop (mkF m 47 #[.val (.int p1), .val (.int p2), .val (.int p3), .val (.int p4), .val (.int p5), .val u_2, .val u_5, .val u_8, .val .null, .unset, .unset, .unset, .unset] [(.int p1)]))
    refine own_via (fun _ => XS.iconst X_7.here hx rfl (hb hby at_47)) ?_
    show own_Go p e below _ (T_7.setTop (mkF m 48 #[.val (.int p1), .val (.int p2), .val (.int p3), .val (.int p4), .val (.int p5), .val u_2, .val u_5, .val u_8, .val .null, .unset, .unset, .unset, .unset] [(.int (1 : Int32)), (.int p1)]))
    refine own_via (fun _ => XS.iand X_7.here hx rfl (hb hby at_48) rfl) ?_
    show own_Go p e below _ (T_7.setTop (mkF m 49 #[.val (.int p1), .val (.int p2), .val (.int p3), .val (.int p4), .val (.int p5), .val u_2, .val u_5, .val u_8, .val .null, .unset, .unset, .unset, .unset] [(.int (p1 &&& (1 : Int32)))]))
    obtain ⟨z_38, ez_38⟩ : ∃ z : Int32, z = (if (p1 &&& (1 : Int32)) = (0 : Int32) then (0 : Int32) else (1 : Int32)) := ⟨_, rfl⟩
    refine own_seq (B := T_7.setTop (mkF m 57 #[.val (.int p1), .val (.int p2), .val (.int p3), .val (.int p4), .val (.int p5), .val u_2, .val u_5, .val u_8, .val .null, .unset, .unset, .unset, .unset] [(.int z_38)])) (fun kz => ?_) ?_
    · by_cases hv_39 : (p1 &&& (1 : Int32)) = (0 : Int32)
      · refine own_via (fun _ => XS.ifYes X_7.here hx rfl (pc0 := 49) (pc' := 56) rfl (hb hby at_49) rfl ((if0 _ _).trans (teq (hv_39 : (p1 &&& (1 : Int32)) = (0 : Int32))).1) (by decide) (by decide)) ?_
        show own_Go p e below _ (T_7.setTop (mkF m 56 #[.val (.int p1), .val (.int p2), .val (.int p3), .val (.int p4), .val (.int p5), .val u_2, .val u_5, .val u_8, .val .null, .unset, .unset, .unset, .unset] []))
        refine own_via (fun _ => XS.iconst X_7.here hx rfl (hb hby at_56)) ?_
        show own_Go p e below _ (T_7.setTop (mkF m 57 #[.val (.int p1), .val (.int p2), .val (.int p3), .val (.int p4), .val (.int p5), .val u_2, .val u_5, .val u_8, .val .null, .unset, .unset, .unset, .unset] [(.int (0 : Int32))]))
        rw [if_pos hv_39] at ez_38
        subst ez_38
        exact kz
      · refine own_via (fun _ => XS.ifNo X_7.here hx rfl (hb hby at_49) rfl ((if0 _ _).trans (feq (hv_39 : ¬ ((p1 &&& (1 : Int32)) = (0 : Int32)))).1)) ?_
        show own_Go p e below _ (T_7.setTop (mkF m 52 #[.val (.int p1), .val (.int p2), .val (.int p3), .val (.int p4), .val (.int p5), .val u_2, .val u_5, .val u_8, .val .null, .unset, .unset, .unset, .unset] []))
        refine own_via (fun _ => XS.iconst X_7.here hx rfl (hb hby at_52)) ?_
        show own_Go p e below _ (T_7.setTop (mkF m 53 #[.val (.int p1), .val (.int p2), .val (.int p3), .val (.int p4), .val (.int p5), .val u_2, .val u_5, .val u_8, .val .null, .unset, .unset, .unset, .unset] [(.int (1 : Int32))]))
        refine own_via (fun _ => XS.goto X_7.here hx rfl (pc0 := 53) (pc' := 57) rfl (hb hby at_53) (by decide) (by decide)) ?_
        show own_Go p e below _ (T_7.setTop (mkF m 57 #[.val (.int p1), .val (.int p2), .val (.int p3), .val (.int p4), .val (.int p5), .val u_2, .val u_5, .val u_8, .val .null, .unset, .unset, .unset, .unset] [(.int (1 : Int32))]))
        rw [if_neg hv_39] at ez_38
        subst ez_38
        exact kz
    show own_Go p e below _ (T_7.setTop (mkF m 57 #[.val (.int p1), .val (.int p2), .val (.int p3), .val (.int p4), .val (.int p5), .val u_2, .val u_5, .val u_8, .val .null, .unset, .unset, .unset, .unset] [(.int z_38)]))
    refine own_via (fun _ => XS.istore X_7.here hx rfl (hb hby at_57) rfl (l' := #[.val (.int p1), .val (.int p2), .val (.int p3), .val (.int p4), .val (.int p5), .val u_2, .val u_5, .val u_8, .val .null, .val (.int z_38), .unset, .unset, .unset]) rfl) ?_
    show own_Go p e below _ (T_7.setTop (mkF m 59 #[.val (.int p1), .val (.int p2), .val (.int p3), .val (.int p4), .val (.int p5), .val u_2, .val u_5, .val u_8, .val .null, .val (.int z_38), .unset, .unset, .unset] []))
    refine own_via (fun _ => XS.iloadN X_7.here hx rfl (hb hby at_59) rfl) ?_
    show own_Go p e below _ (T_7.setTop (mkF m 60 #[.val (.int p1), .val (.int p2), .val (.int p3), .val (.int p4), .val (.int p5), .val u_2, .val u_5, .val u_8, .val .null, .val (.int z_38), .unset, .unset, .unset] [(.int p1)]))
    refine own_via (fun _ => XS.iconst X_7.here hx rfl (hb hby at_60)) ?_
    show own_Go p e below _ (T_7.setTop (mkF m 61 #[.val (.int p1), .val (.int p2), .val (.int p3), .val (.int p4), .val (.int p5), .val u_2, .val u_5, .val u_8, .val .null, .val (.int z_38), .unset, .unset, .unset] [(.int (2 : Int32)), (.int p1)]))
    refine own_via (fun _ => XS.iushr X_7.here hx rfl (hb hby at_61) rfl) ?_
    show own_Go p e below _ (T_7.setTop (mkF m 62 #[.val (.int p1), .val (.int p2), .val (.int p3), .val (.int p4), .val (.int p5), .val u_2, .val u_5, .val u_8, .val .null, .val (.int z_38), .unset, .unset, .unset] [(.int ((p1.toUInt32 >>> ((2 : Int32) &&& 31).toUInt32).toInt32))]))
    refine own_via (fun _ => XS.iconst X_7.here hx rfl (hb hby at_62)) ?_
    show own_Go p e below _ (T_7.setTop (mkF m 63 #[.val (.int p1), .val (.int p2), .val (.int p3), .val (.int p4), .val (.int p5), .val u_2, .val u_5, .val u_8, .val .null, .val (.int z_38), .unset, .unset, .unset] [(.int (1 : Int32)), (.int ((p1.toUInt32 >>> ((2 : Int32) &&& 31).toUInt32).toInt32))]))
    refine own_via (fun _ => XS.iand X_7.here hx rfl (hb hby at_63) rfl) ?_
    show own_Go p e below _ (T_7.setTop (mkF m 64 #[.val (.int p1), .val (.int p2), .val (.int p3), .val (.int p4), .val (.int p5), .val u_2, .val u_5, .val u_8, .val .null, .val (.int z_38), .unset, .unset, .unset] [(.int (((p1.toUInt32 >>> ((2 : Int32) &&& 31).toUInt32).toInt32) &&& (1 : Int32)))]))
    obtain ⟨z_40, ez_40⟩ : ∃ z : Int32, z = (if (((p1.toUInt32 >>> ((2 : Int32) &&& 31).toUInt32).toInt32) &&& (1 : Int32)) = (0 : Int32) then (0 : Int32) else (1 : Int32)) := ⟨_, rfl⟩
    refine own_seq (B := T_7.setTop (mkF m 72 #[.val (.int p1), .val (.int p2), .val (.int p3), .val (.int p4), .val (.int p5), .val u_2, .val u_5, .val u_8, .val .null, .val (.int z_38), .unset, .unset, .unset] [(.int z_40)])) (fun kz => ?_) ?_
    · by_cases hv_41 : (((p1.toUInt32 >>> ((2 : Int32) &&& 31).toUInt32).toInt32) &&& (1 : Int32)) = (0 : Int32)
      · refine own_via (fun _ => XS.ifYes X_7.here hx rfl (pc0 := 64) (pc' := 71) rfl (hb hby at_64) rfl ((if0 _ _).trans (teq (hv_41 : (((p1.toUInt32 >>> ((2 : Int32) &&& 31).toUInt32).toInt32) &&& (1 : Int32)) = (0 : Int32))).1) (by decide) (by decide)) ?_
        show own_Go p e below _ (T_7.setTop (mkF m 71 #[.val (.int p1), .val (.int p2), .val (.int p3), .val (.int p4), .val (.int p5), .val u_2, .val u_5, .val u_8, .val .null, .val (.int z_38), .unset, .unset, .unset] []))
        refine own_via (fun _ => XS.iconst X_7.here hx rfl (hb hby at_71)) ?_
        show own_Go p e below _ (T_7.setTop (mkF m 72 #[.val (.int p1), .val (.int p2), .val (.int p3), .val (.int p4), .val (.int p5), .val u_2, .val u_5, .val u_8, .val .null, .val (.int z_38), .unset, .unset, .unset] [(.int (0 : Int32))]))
        rw [if_pos hv_41] at ez_40
        subst ez_40
        exact kz
      · refine own_via (fun _ => XS.ifNo X_7.here hx rfl (hb hby at_64) rfl ((if0 _ _).trans (feq (hv_41 : ¬ ((((p1.toUInt32 >>> ((2 : Int32) &&& 31).toUInt32).toInt32) &&& (1 : Int32)) = (0 : Int32)))).1)) ?_
        show own_Go p e below _ (T_7.setTop (mkF m 67 #[.val (.int p1), .val (.int p2), .val (.int p3), .val (.int p4), .val (.int p5), .val u_2, .val u_5, .val u_8, .val .null, .val (.int z_38), .unset, .unset, .unset] []))
        refine own_via (fun _ => XS.iconst X_7.here hx rfl (hb hby at_67)) ?_
        show own_Go p e below _ (T_7.setTop (mkF m 68 #[.val (.int p1), .val (.int p2), .val (.int p3), .val (.int p4), .val (.int p5), .val u_2, .val u_5, .val u_8, .val .null, .val (.int z_38), .unset, .unset, .unset] [(.int (1 : Int32))]))
        refine own_via (fun _ => XS.goto X_7.here hx rfl (pc0 := 68) (pc' := 72) rfl (hb hby at_68) (by decide) (by decide)) ?_
        show own_Go p e below _ (T_7.setTop (mkF m 72 #[.val (.int p1), .val (.int p2), .val (.int p3), .val (.int p4), .val (.int p5), .val u_2, .val u_5, .val u_8, .val .null, .val (.int z_38), .unset, .unset, .unset] [(.int (1 : Int32))]))
        rw [if_neg hv_41] at ez_40
        subst ez_40
        exact kz
    show own_Go p e below _ (T_7.setTop (mkF m 72 #[.val (.int p1), .val (.int p2), .val (.int p3), .val (.int p4), .val (.int p5), .val u_2, .val u_5, .val u_8, .val .null, .val (.int z_38), .unset, .unset, .unset] [(.int z_40)]))
    refine own_via (fun _ => XS.istore X_7.here hx rfl (hb hby at_72) rfl (l' := #[.val (.int p1), .val (.int p2), .val (.int p3), .val (.int p4), .val (.int p5), .val u_2, .val u_5, .val u_8, .val .null, .val (.int z_38), .val (.int z_40), .unset, .unset]) rfl) ?_
    show own_Go p e below _ (T_7.setTop (mkF m 74 #[.val (.int p1), .val (.int p2), .val (.int p3), .val (.int p4), .val (.int p5), .val u_2, .val u_5, .val u_8, .val .null, .val (.int z_38), .val (.int z_40), .unset, .unset] []))
    refine own_via (fun _ => XS.iload X_7.here hx rfl (hb hby at_74) rfl) ?_
    show own_Go p e below _ (T_7.setTop (mkF m 76 #[.val (.int p1), .val (.int p2), .val (.int p3), .val (.int p4), .val (.int p5), .val u_2, .val u_5, .val u_8, .val .null, .val (.int z_38), .val (.int z_40), .unset, .unset] [(.int z_38)]))
    obtain ⟨z_42, ez_42⟩ : ∃ z : Int32, z = (if z_38 = (0 : Int32) then (0 : Int32) else (if z_40 = (0 : Int32) then (0 : Int32) else (1 : Int32))) := ⟨_, rfl⟩
    refine own_seq (B := T_7.setTop (mkF m 89 #[.val (.int p1), .val (.int p2), .val (.int p3), .val (.int p4), .val (.int p5), .val u_2, .val u_5, .val u_8, .val .null, .val (.int z_38), .val (.int z_40), .unset, .unset] [(.int z_42)])) (fun kz => ?_) ?_
    · by_cases hv_43 : z_38 = (0 : Int32)
      · refine own_via (fun _ => XS.ifYes X_7.here hx rfl (pc0 := 76) (pc' := 88) rfl (hb hby at_76) rfl ((if0 _ _).trans (teq (hv_43 : z_38 = (0 : Int32))).1) (by decide) (by decide)) ?_
        show own_Go p e below _ (T_7.setTop (mkF m 88 #[.val (.int p1), .val (.int p2), .val (.int p3), .val (.int p4), .val (.int p5), .val u_2, .val u_5, .val u_8, .val .null, .val (.int z_38), .val (.int z_40), .unset, .unset] []))
        refine own_via (fun _ => XS.iconst X_7.here hx rfl (hb hby at_88)) ?_
        show own_Go p e below _ (T_7.setTop (mkF m 89 #[.val (.int p1), .val (.int p2), .val (.int p3), .val (.int p4), .val (.int p5), .val u_2, .val u_5, .val u_8, .val .null, .val (.int z_38), .val (.int z_40), .unset, .unset] [(.int (0 : Int32))]))
        rw [if_pos hv_43] at ez_42
        subst ez_42
        exact kz
      · refine own_via (fun _ => XS.ifNo X_7.here hx rfl (hb hby at_76) rfl ((if0 _ _).trans (feq (hv_43 : ¬ (z_38 = (0 : Int32)))).1)) ?_
        show own_Go p e below _ (T_7.setTop (mkF m 79 #[.val (.int p1), .val (.int p2), .val (.int p3), .val (.int p4), .val (.int p5), .val u_2, .val u_5, .val u_8, .val .null, .val (.int z_38), .val (.int z_40), .unset, .unset] []))
        refine own_via (fun _ => XS.iload X_7.here hx rfl (hb hby at_79) rfl) ?_
        show own_Go p e below _ (T_7.setTop (mkF m 81 #[.val (.int p1), .val (.int p2), .val (.int p3), .val (.int p4), .val (.int p5), .val u_2, .val u_5, .val u_8, .val .null, .val (.int z_38), .val (.int z_40), .unset, .unset] [(.int z_40)]))
        by_cases hv_44 : z_40 = (0 : Int32)
        · refine own_via (fun _ => XS.ifYes X_7.here hx rfl (pc0 := 81) (pc' := 88) rfl (hb hby at_81) rfl ((if0 _ _).trans (teq (hv_44 : z_40 = (0 : Int32))).1) (by decide) (by decide)) ?_
          show own_Go p e below _ (T_7.setTop (mkF m 88 #[.val (.int p1), .val (.int p2), .val (.int p3), .val (.int p4), .val (.int p5), .val u_2, .val u_5, .val u_8, .val .null, .val (.int z_38), .val (.int z_40), .unset, .unset] []))
          refine own_via (fun _ => XS.iconst X_7.here hx rfl (hb hby at_88)) ?_
          show own_Go p e below _ (T_7.setTop (mkF m 89 #[.val (.int p1), .val (.int p2), .val (.int p3), .val (.int p4), .val (.int p5), .val u_2, .val u_5, .val u_8, .val .null, .val (.int z_38), .val (.int z_40), .unset, .unset] [(.int (0 : Int32))]))
          rw [if_neg hv_43] at ez_42
          rw [if_pos hv_44] at ez_42
          subst ez_42
          exact kz
        · refine own_via (fun _ => XS.ifNo X_7.here hx rfl (hb hby at_81) rfl ((if0 _ _).trans (feq (hv_44 : ¬ (z_40 = (0 : Int32)))).1)) ?_
          show own_Go p e below _ (T_7.setTop (mkF m 84 #[.val (.int p1), .val (.int p2), .val (.int p3), .val (.int p4), .val (.int p5), .val u_2, .val u_5, .val u_8, .val .null, .val (.int z_38), .val (.int z_40), .unset, .unset] []))
          refine own_via (fun _ => XS.iconst X_7.here hx rfl (hb hby at_84)) ?_
          show own_Go p e below _ (T_7.setTop (mkF m 85 #[.val (.int p1), .val (.int p2), .val (.int p3), .val (.int p4), .val (.int p5), .val u_2, .val u_5, .val u_8, .val .null, .val (.int z_38), .val (.int z_40), .unset, .unset] [(.int (1 : Int32))]))
          refine own_via (fun _ => XS.goto X_7.here hx rfl (pc0 := 85) (pc' := 89) rfl (hb hby at_85) (by decide) (by decide)) ?_
          show own_Go p e below _ (T_7.setTop (mkF m 89 #[.val (.int p1), .val (.int p2), .val (.int p3), .val (.int p4), .val (.int p5), .val u_2, .val u_5, .val u_8, .val .null, .val (.int z_38), .val (.int z_40), .unset, .unset] [(.int (1 : Int32))]))
          rw [if_neg hv_43] at ez_42
          rw [if_neg hv_44] at ez_42
          subst ez_42
          exact kz
    show own_Go p e below _ (T_7.setTop (mkF m 89 #[.val (.int p1), .val (.int p2), .val (.int p3), .val (.int p4), .val (.int p5), .val u_2, .val u_5, .val u_8, .val .null, .val (.int z_38), .val (.int z_40), .unset, .unset] [(.int z_42)]))
    refine own_via (fun _ => XS.istore X_7.here hx rfl (hb hby at_89) rfl (l' := #[.val (.int p1), .val (.int p2), .val (.int p3), .val (.int p4), .val (.int p5), .val u_2, .val u_5, .val u_8, .val .null, .val (.int z_38), .val (.int z_40), .val (.int z_42), .unset]) rfl) ?_
    show own_Go p e below _ (T_7.setTop (mkF m 91 #[.val (.int p1), .val (.int p2), .val (.int p3), .val (.int p4), .val (.int p5), .val u_2, .val u_5, .val u_8, .val .null, .val (.int z_38), .val (.int z_40), .val (.int z_42), .unset] []))
    obtain ⟨T_45, h_45, X_45, e_45, E_45, A_45, D_45, -, st_45⟩ := newO X_7 hx hZ_7 ho_7 (own_w hw 26 rfl) (own_w hw 27 rfl) (own_w hw 28 rfl) rfl (g := (mkF m 91 #[.val (.int p1), .val (.int p2), .val (.int p3), .val (.int p4), .val (.int p5), .val u_2, .val u_5, .val u_8, .val .null, .val (.int z_38), .val (.int z_40), .val (.int z_42), .unset] [])) rfl (hb hby at_91) (by decide) (by decide)
    obtain ⟨b_45, g_45⟩ : ∃ z, z = T_7.heap.size := ⟨_, rfl⟩
    rw [← g_45] at A_45 D_45 st_45
    have F_46 : Fld Z h_45 b_45 "com/example/keelstone/keelstone/store/FollowUp" "identifier" "Ljava/lang/String;" .null := D_45 (Or.inr (own_w hw 39 rfl)) (ty := (.object "java/lang/String")) (by decide)
    have F_47 : Fld Z h_45 b_45 "com/example/keelstone/keelstone/store/FollowUp" "seriesId" "Ljava/lang/String;" .null := D_45 (Or.inr (own_w hw 41 rfl)) (ty := (.object "java/lang/String")) (by decide)
    have F_48 : Fld Z h_45 b_45 "com/example/keelstone/keelstone/store/FollowUp" "replaced" "Ljava/lang/String;" .null := D_45 (Or.inr (own_w hw 43 rfl)) (ty := (.object "java/lang/String")) (by decide)
    have F_49 : Fld Z h_45 b_45 "com/example/keelstone/keelstone/store/FollowUp" "replacedSystemMetadata" "[B" .null := D_45 (Or.inr (own_w hw 45 rfl)) (ty := (.array .byte)) (by decide)
    refine own_via st_45 ?_
    show own_Go p e below _ (T_45.setTop (mkF m 94 #[.val (.int p1), .val (.int p2), .val (.int p3), .val (.int p4), .val (.int p5), .val u_2, .val u_5, .val u_8, .val .null, .val (.int z_38), .val (.int z_40), .val (.int z_42), .unset] [(.ref b_45)]))
    refine own_via (fun _ => XS.dup X_45.here hx rfl (hb hby at_94) rfl rfl) ?_
    show own_Go p e below _ (T_45.setTop (mkF m 95 #[.val (.int p1), .val (.int p2), .val (.int p3), .val (.int p4), .val (.int p5), .val u_2, .val u_5, .val u_8, .val .null, .val (.int z_38), .val (.int z_40), .val (.int z_42), .unset] [(.ref b_45), (.ref b_45)]))
    refine own_via (fun _ => XS.aload X_45.here hx rfl (hb hby at_95) rfl q_1_0) ?_
    show own_Go p e below _ (T_45.setTop (mkF m 97 #[.val (.int p1), .val (.int p2), .val (.int p3), .val (.int p4), .val (.int p5), .val u_2, .val u_5, .val u_8, .val .null, .val (.int z_38), .val (.int z_40), .val (.int z_42), .unset] [u_2, (.ref b_45), (.ref b_45)]))
    refine own_via (fun _ => XS.aload X_45.here hx rfl (hb hby at_97) rfl q_4_0) ?_
    show own_Go p e below _ (T_45.setTop (mkF m 99 #[.val (.int p1), .val (.int p2), .val (.int p3), .val (.int p4), .val (.int p5), .val u_2, .val u_5, .val u_8, .val .null, .val (.int z_38), .val (.int z_40), .val (.int z_42), .unset] [u_5, u_2, (.ref b_45), (.ref b_45)]))
    refine own_via (fun _ => XS.aload X_45.here hx rfl (hb hby at_99) rfl q_7_0) ?_
    show own_Go p e below _ (T_45.setTop (mkF m 101 #[.val (.int p1), .val (.int p2), .val (.int p3), .val (.int p4), .val (.int p5), .val u_2, .val u_5, .val u_8, .val .null, .val (.int z_38), .val (.int z_40), .val (.int z_42), .unset] [u_8, u_5, u_2, (.ref b_45), (.ref b_45)]))
    refine own_via (fun _ => XS.aload X_45.here hx rfl (hb hby at_101) rfl rfl) ?_
    show own_Go p e below _ (T_45.setTop (mkF m 103 #[.val (.int p1), .val (.int p2), .val (.int p3), .val (.int p4), .val (.int p5), .val u_2, .val u_5, .val u_8, .val .null, .val (.int z_38), .val (.int z_40), .val (.int z_42), .unset] [.null, u_8, u_5, u_2, (.ref b_45), (.ref b_45)]))
    have K_50 : Keep h0 T_7.heap [] := Keep.trans (ws := []) K_6 K_7q all0
    have K_51 : Keep h0 h_45 [] := K_50.ext E_45
    obtain ⟨_, _, ⟨T_52, L_52, k_52, n_52⟩, -, X_52, ⟨Lc_52, hQ_52, l_52, y_52, z_52⟩, st_52⟩ := X_45.specialBack hx (y := (⟨"com/example/keelstone/keelstone/store/FollowUp", "<init>", "(Ljava/lang/String;Ljava/lang/String;Ljava/lang/String;[B)V"⟩ : MethodName)) rfl ho_7 (mvT hZ_7 (own_w hw 29 rfl)) (mvT hZ_7 (own_w hw 30 rfl)) (mvT hZ_7 (own_w hw 31 rfl)) (by decide) (backOf (W := 1) (rmfuInit l Z a0 hw [] b_45 u_2 u_5 u_8 .null h_45 n0 (Nat.le_trans Z0 K_51.1) A_45 F_46 F_47 F_48 F_49 (Nat.le_trans Z0 (Nat.le_trans K_50.1 (Nat.le_of_eq g_45.symm))) q_1_0 q_4_0 q_7_0 rfl) hZ_7 (own_w hw 31 rfl) (own_w hw 28 rfl) (by decide) (by decide)) (g := (mkF m 103 #[.val (.int p1), .val (.int p2), .val (.int p3), .val (.int p4), .val (.int p5), .val u_2, .val u_5, .val u_8, .val .null, .val (.int z_38), .val (.int z_40), .val (.int z_42), .unset] [.null, u_8, u_5, u_2, (.ref b_45), (.ref b_45)])) rfl (by rw [hml]; rfl) (Steps.refl _) (a := b_45) (argsL := [u_2, u_5, u_8, .null]) (rest := [(.ref b_45)]) (lenOf pd_8 rfl) rfl (by show 2 * 0 + _ ≤ _; exact Nat.le_of_eq rfl) (hb hby at_103) (fun _ _ => ⟨rfl, e_45, (by decide : 13 + 0 ≤ _), (by decide : 28 + 0 ≤ _)⟩)
    dsimp only [Pt.U, Pt.locs, Pt.cells, Pt.slots] at X_52 l_52 y_52 z_52 st_52 hQ_52
    subst l_52 y_52 z_52
    obtain ⟨rfl, Nq_52, K_52q, q_52_0, q_52_1⟩ := hQ_52
    have N_52 := Fr.app N_7 Nq_52
    refine own_via (fun _ k => st_52.trans k) ?_
    show own_Go p e below _ (T_52.setTop (mkF m 106 #[.val (.int p1), .val (.int p2), .val (.int p3), .val (.int p4), .val (.int p5), .val u_2, .val u_5, .val u_8, .val .null, .val (.int z_38), .val (.int z_40), .val (.int z_42), .unset] [(.ref b_45)]))
    refine own_via (fun _ => XS.astore X_52.here hx rfl (hb hby at_106) rfl rfl (l' := #[.val (.int p1), .val (.int p2), .val (.int p3), .val (.int p4), .val (.int p5), .val u_2, .val u_5, .val u_8, .val .null, .val (.int z_38), .val (.int z_40), .val (.int z_42), .val (.ref b_45)]) rfl) ?_
    show own_Go p e below _ (T_52.setTop (mkF m 108 #[.val (.int p1), .val (.int p2), .val (.int p3), .val (.int p4), .val (.int p5), .val u_2, .val u_5, .val u_8, .val .null, .val (.int z_38), .val (.int z_40), .val (.int z_42), .val (.ref b_45)] []))
    refine own_via (fun _ => XS.aload X_52.here hx rfl (hb hby at_108) rfl rfl) ?_
    show own_Go p e below _ (T_52.setTop (mkF m 110 #[.val (.int p1), .val (.int p2), .val (.int p3), .val (.int p4), .val (.int p5), .val u_2, .val u_5, .val u_8, .val .null, .val (.int z_38), .val (.int z_40), .val (.int z_42), .val (.ref b_45)] [(.ref b_45)]))
    have K_53 : Keep h0 T_52.heap [] := Keep.trans (ws := []) K_51 K_52q (allS (Or.inr (Nat.le_trans K_50.1 (Nat.le_of_eq g_45.symm))) all0)
    have K_55 : Keep h_45 T_52.heap [b_45] := Keep.trans (ws := [b_45]) (own_keep_mono (Keep.refl h_45 []) (by simp)) K_52q (allS (Or.inl (List.mem_of_getElem? (i := 0) rfl)) all0)
    obtain ⟨cq_54, kq_54, q_54a, q_54b, q_54c⟩ := isOf hZ_7 rfl (A_45.keep K_55)
    obtain ⟨_, _, ⟨T_54, L_54, k_54, n_54⟩, -, X_54, ⟨Lc_54, hQ_54, l_54, y_54, z_54⟩, st_54⟩ := X_52.virtualBack hx (y := (⟨"com/example/keelstone/keelstone/store/FollowUp", "isEmpty", "()Z"⟩ : MethodName)) (z := (⟨"com/example/keelstone/keelstone/store/FollowUp", "isEmpty", "()Z"⟩ : MethodName)) ho_7 (mvT hZ_7 (own_w hw 46 rfl)) (mvT hZ_7 (own_w hw 47 rfl)) (notFace_of_selects (args := #[]) (mvT hZ_7 (own_w hw 49 rfl))) (mvT hZ_7 (own_w hw 49 rfl)) (mvT hZ_7 (own_w hw 48 rfl)) (by decide) (backOf (W := 0) (rmisEmpty l Z a0 hw [] b_45 u_5 u_8 T_52.heap n0 (Nat.le_trans Z0 K_53.1) q_52_0 q_52_1 q_4_0 q_7_0) hZ_7 (own_w hw 50 rfl) (own_w hw 28 rfl) (by decide) (by decide)) q_54a q_54c (g := (mkF m 110 #[.val (.int p1), .val (.int p2), .val (.int p3), .val (.int p4), .val (.int p5), .val u_2, .val u_5, .val u_8, .val .null, .val (.int z_38), .val (.int z_40), .val (.int z_42), .val (.ref b_45)] [(.ref b_45)])) rfl (by rw [hml]; rfl) (Steps.refl _) (argsL := []) (rest := []) (lenOf pd_9 rfl) rfl (by show 2 * 0 + _ ≤ _; exact Nat.le_of_eq rfl) (hb hby at_110) (fun _ _ => ⟨rfl, rfl, (by decide : 13 + 0 ≤ _), (by decide : 28 + 0 ≤ _)⟩)
    dsimp only [Pt.U, Pt.locs, Pt.cells, Pt.slots] at X_54 l_54 y_54 z_54 st_54 hQ_54
    subst l_54 y_54 z_54
    obtain ⟨i_56, rfl, Nq_54, K_54q, q_54_0⟩ := hQ_54
    have N_54 := Fr.app N_52 Nq_54
    refine own_via (fun _ k => st_54.trans k) ?_
    show own_Go p e below _ (T_54.setTop (mkF m 113 #[.val (.int p1), .val (.int p2), .val (.int p3), .val (.int p4), .val (.int p5), .val u_2, .val u_5, .val u_8, .val .null, .val (.int z_38), .val (.int z_40), .val (.int z_42), .val (.ref b_45)] [(.int i_56)]))
    refine own_via (fun _ => XS.iload X_54.here hx rfl (hb hby at_113) rfl) ?_
    show own_Go p e below _ (T_54.setTop (mkF m 115 #[.val (.int p1), .val (.int p2), .val (.int p3), .val (.int p4), .val (.int p5), .val u_2, .val u_5, .val u_8, .val .null, .val (.int z_38), .val (.int z_40), .val (.int z_42), .val (.ref b_45)] [(.int z_42), (.int i_56)]))
    refine own_via (fun _ => XS.icmpNo X_54.here hx rfl (hb hby at_115) rfl (teq (own_fin q_4_1 q_7_1 ez_38 ez_40 ez_42 q_54_0 : i_56 = z_42)).2) ?_
    show own_Go p e below _ (T_54.setTop (mkF m 118 #[.val (.int p1), .val (.int p2), .val (.int p3), .val (.int p4), .val (.int p5), .val u_2, .val u_5, .val u_8, .val .null, .val (.int z_38), .val (.int z_40), .val (.int z_42), .val (.ref b_45)] []))
    refine own_via (fun _ => XS.iconst X_54.here hx rfl (hb hby at_118)) ?_
    show own_Go p e below _ (T_54.setTop (mkF m 119 #[.val (.int p1), .val (.int p2), .val (.int p3), .val (.int p4), .val (.int p5), .val u_2, .val u_5, .val u_8, .val .null, .val (.int z_38), .val (.int z_40), .val (.int z_42), .val (.ref b_45)] [(.int (1 : Int32))]))
    refine own_via (fun _ => XS.goto X_54.here hx rfl (pc0 := 119) (pc' := 123) rfl (hb hby at_119) (by decide) (by decide)) ?_
    show own_Go p e below _ (T_54.setTop (mkF m 123 #[.val (.int p1), .val (.int p2), .val (.int p3), .val (.int p4), .val (.int p5), .val u_2, .val u_5, .val u_8, .val .null, .val (.int z_38), .val (.int z_40), .val (.int z_42), .val (.ref b_45)] [(.int (1 : Int32))]))
    have K_57 : Keep h0 T_54.heap [] := Keep.trans (ws := []) K_53 K_54q all0
    have K_58 : Keep T_7.heap h_45 [] := (Keep.refl T_7.heap []).ext E_45
    have K_59 : Keep T_7.heap T_52.heap [] := Keep.trans (ws := []) K_58 K_52q (allS (Or.inr (Nat.le_of_eq g_45.symm)) all0)
    have K_60 : Keep T_7.heap T_54.heap [] := Keep.trans (ws := []) K_59 K_54q all0
    exact own_retvW X_54 hS_7 (Nat.le_trans (Nat.le_refl _) K_60.1) Bd.notSynchronized hx Bd.returns rfl (Or.inl ⟨rfl, (by simp), _, rfl⟩) (hb hby at_123) (by decide) (by decide) ⟨rfl, N_54, K_57⟩
set_option maxRecDepth 65536 in
set_option maxHeartbeats 40000000 in
theorem comes_1 {Post : Tables → Env → Array Value → State → Outcome → State → Prop} (hpost : ∀ tb e args s v u, (limb_1_1.after args s (.returned v) u = true ∧ limb_1_2.after args s (.returned v) u = true ∧ True) → FramedW s (.returned v) u (Jvm.fieldLocs frame_1_writes args s ++ Jvm.arrayLocs frame_1_arrays args s ++ Jvm.staticLocs frame_1_statics s) 32 1152 → Post tb e args s (.returned v) u) :
    ArmFor flags0 classFile x code maxLocals ret World_1 tables_1 room_1 Calls_1 rest_1 Pre_1 Post := by
  intro l hfl _ _ p e ha hc hk s m args below hf hA hF happ hP
  obtain ⟨hcalls, hrest, hpre⟩ := hP
  obtain ⟨-, -, -, hnamed, -, -, -, hat⟩ := (Spec.applies_iff hf).mp happ
  obtain ⟨hg, hn⟩ := and_e (Cond.before_iff.mp (show (Jvm.Cond.and given_1 narrow_1).before args s = true from hpre))
  obtain ⟨ga0, gb0⟩ := and_e hg
  obtain ⟨ga1, gb1⟩ := and_e gb0
  obtain ⟨ga2, gb2⟩ := and_e gb1
  obtain ⟨ga3, gb3⟩ := and_e gb2
  obtain ⟨ga4, gb4⟩ := and_e gb3
  obtain ⟨w0, w1, w2, w3, w4, rfl⟩ : ∃ w0 w1 w2 w3 w4 : Value, args = #[w0, w1, w2, w3, w4] := by
    have hs : args.size = 5 := by simpa [Cond.value, given_1] using ga0
    obtain ⟨L⟩ := args
    match L, hs with
    | [w0, w1, w2, w3, w4], _ => exact ⟨w0, w1, w2, w3, w4, rfl⟩
  have hw := fun d (hd : d ∈ tables_1) => atoms_spec (ws := Jvm.Cond.code x code maxLocals ret :: tables_1) hat d (List.mem_cons_of_mem _ hd)
  have hfit : Fit s := fun {y c} hc i hi => by
    obtain ⟨ha, rfl⟩ := Array.getElem?_eq_some_iff.mp hc
    have q := List.all_eq_true.mp ((Array.all_eq_true_iff_forall_mem.mp hF) _ (Array.getElem_mem ha)) i (List.mem_range.mpr hi)
    simpa [Array.getElem?_eq_getElem hi] using q
  obtain ⟨i0, ei0⟩ := is_v ga1
  obtain rfl : w0 = (.int i0) := Option.some.inj ei0
  obtain ⟨i1, ei1⟩ := is_v ga2
  obtain rfl : w1 = (.int i1) := Option.some.inj ei1
  obtain ⟨i2, ei2⟩ := is_v ga3
  obtain rfl : w2 = (.int i2) := Option.some.inj ei2
  obtain ⟨i3, ei3⟩ := is_v ga4
  obtain rfl : w3 = (.int i3) := Option.some.inj ei3
  obtain ⟨i4, ei4⟩ := is_v gb4
  obtain rfl : w4 = (.int i4) := Option.some.inj ei4
  obtain ⟨hsets, hown0⟩ := atoms_of _ (rest_1_c_eq ▸ (show rest_1_c.before _ s = true from hrest))
  obtain ⟨cs, tcs⟩ := is_v (Cond.before_iff.mp (hsets _ (List.mem_of_getElem? (i := 1) rfl)))
  have Scs := Sta.start tcs (Or.inl (hsets _ (List.mem_of_getElem? (i := 0) rfl)))
  have hcs : ¬ (cs = (0 : Int32)) := fun q => by
    subst q
    have h1 := not_v (Cond.before_iff.mp (hsets _ (List.mem_of_getElem? (i := 2) rfl)))
    rw [eq_i tcs (Term.int_eval (0)) rfl] at h1
    cases h1
  have hcw : Jvm.Lit.compactW.before _ s = true := hsets _ (List.mem_of_getElem? (i := 2) rfl)
  have hhc : ∀ p ∈ consts_1, Jvm.Lit.constHeld s p.1 p.2 := fun p hp => hcalls.1 p hp
  have J0 : CHv s consts_1 s.vm s.heap := CHv.start (own_EW hw) hhc hcw (own_w hw 19 rfl) (own_w hw 5 rfl)
  obtain ⟨n, o, h1, h2, h3, _, L, rfl, ⟨rfl, N, -⟩, hq⟩ := rm0 l s _ hw tables_1 i0 i1 i2 i3 i4 cs s.heap s.heap.size (Nat.le_refl _) (Old.start s) Scs hcs p e ha hc hk s m _ below hf ((Spec.applies_iff_loose hf).mp happ).1 ⟨rfl, State.Warmed39.refl s, rfl, J0⟩ trivial
  refine ⟨n, _, h1, h2, h3, hpost _ _ _ _ _ _ ⟨Cond.after_iff.mpr rfl, Cond.after_iff.mpr (eq_i res_at (Term.int_eval (1)) rfl), trivial⟩ ⟨hq.1, hq.2.1, hq.2.2.1, (hq.2.2.2.sift fun y hy => Or.inr (N y hy)).mono (by decide) (by decide)⟩⟩
theorem main_1_1 : Claimed_1_1 := comes_1 fun _ _ _ _ _ _ h hF => ⟨h.1, hF⟩
theorem main_1_2 : Claimed_1_2 := comes_1 fun _ _ _ _ _ _ h hF => ⟨h.2.1, hF⟩
end Jvm.Pilot.@@N@@
namespace Jvm.Pilot.@@N@@
open Jvm Jvm.ClassFile Sem Op Lib Jvm.Free Jvm.Stand Jvm.Pilot.@@N@@.Jvm.D
/-! MADE BY PROGRAM (witnessworld.py) out of the Statement's table words and the real class files: 18 classes; the members and pool entries that the words name. The judged class is class 1, her method 2. -/
namespace start1
open Jvm.ClassFile
def u (s : String) : CpInfo := .utf8 (stringToUtf16 s)
/-- a pool by its gaps: so many unusable entries, then the entry; so many at the end -/
def gap : Nat → List CpInfo → List CpInfo
  | 0, r => r
  | n + 1, r => .unusable :: gap n r
def poolList (es : List (Nat × CpInfo)) (last : Nat) : List CpInfo := es.foldr (fun e r => gap e.1 (e.2 :: r)) (gap last [])
def pool (es : List (Nat × CpInfo)) (last : Nat) : Array CpInfo := ⟨poolList es last⟩
def fileOf (pool : Array CpInfo) (this : Nat) (attrs : Array Attribute := #[]) (ms : Array MethodInfo := #[]) (fl : Nat := 33) (sup : Nat := 0) (ifs : Array Nat := #[]) (fds : Array FieldInfo := #[]) : ClassFile where
  minorVersion := 0
  majorVersion := 65
  constantPool := pool
  accessFlags := fl
  thisClass := this
  superClass := sup
  interfaces := ifs
  fields := fds
  methods := ms
  attributes := attrs
def plain (name : String) (sup : Option ClassId) : Class where
  name := name
  kind := .ordinary
  loader := none
  accessFlags := 33
  super := sup
  interfaces := #[]
  cf := none
  fields := #[]
  methods := #[]
  instanceTypes := #[]
  staticTypes := #[]
  resolved := #[]
  callSites := []
  init := .initialized
  statics := none
  mirror := none

def pool0 : Array CpInfo := pool [(5, u "<init>"), (0, u "()V"), (1, .class_ 10), (1, u "java/lang/Object")] 113

def k0c0 : Code := { maxStack := 0, maxLocals := 1, code := object_method_1_code, exceptionTable := #[], attributes := #[] }
def k0m0 : Method := { name := "<init>", desc := "()V", sig := { parameters := [], returnType := none }, accessFlags := 1, code := some k0c0 }
/-- java/lang/Object -/
def k0 : Class := { plain "java/lang/Object" none with
  accessFlags := 33
  interfaces := #[]
  cf := some (fileOf pool0 8 #[] #[{ accessFlags := 1, nameIndex := 5, descriptorIndex := 6, attributes := #[] }] 33 0 #[] #[])
  fields := #[]
  methods := #[k0m0]
  instanceTypes := #[]
  staticTypes := #[]
  resolved := Array.replicate 124 none
  statics := none }

def pool1 : Array CpInfo := pool [(2, .class_ 4), (1, u "java/lang/Object"), (0, u "<init>"), (0, u "()V"), (0, .methodref 8 9), (0, .class_ 10), (0, .nameAndType 11 12), (0, u "java/lang/String"), (0, u "valueOf"), (0, u "(C)Ljava/lang/String;"), (0, .methodref 8 14), (0, .nameAndType 5 15), (0, u "([C)V"), (0, .methodref 17 18), (0, .class_ 19), (0, .nameAndType 20 21), (0, u "com/example/keelstone/keelstone/store/FollowUpIsEmptyPinLaw"), (0, u "draw"), (0, u "(II)Ljava/lang/String;"), (0, .class_ 23), (0, u "com/example/keelstone/keelstone/store/FollowUp"), (0, .methodref 22 25), (0, .nameAndType 5 26), (0, u "(Ljava/lang/String;Ljava/lang/String;Ljava/lang/String;[B)V"), (0, .methodref 22 28), (0, .nameAndType 29 30), (0, u "isEmpty"), (0, u "()Z"), (3, u "law"), (0, u "(IIIII)Z")] 4

def k1m0 : Method := { name := "<init>", desc := "()V", sig := { parameters := [], returnType := none }, accessFlags := 2, code := none }
def k1c1 : Code := { maxStack := 3, maxLocals := 2, code := method_2_code, exceptionTable := #[], attributes := #[] }
def k1m1 : Method := { name := "draw", desc := "(II)Ljava/lang/String;", sig := { parameters := [.int, .int], returnType := some (.object "java/lang/String") }, accessFlags := 10, code := some k1c1 }
def k1c2 : Code := { maxStack := 6, maxLocals := 13, code := code, exceptionTable := #[], attributes := #[] }
def k1m2 : Method := { name := "law", desc := "(IIIII)Z", sig := { parameters := [.int, .int, .int, .int, .int], returnType := some .boolean }, accessFlags := 9, code := some k1c2 }
/-- com/example/keelstone/keelstone/store/FollowUpIsEmptyPinLaw -/
def k1 : Class := { plain "com/example/keelstone/keelstone/store/FollowUpIsEmptyPinLaw" (some 0) with
  accessFlags := 49
  interfaces := #[]
  cf := some (fileOf pool1 17 #[] #[{ accessFlags := 2, nameIndex := 5, descriptorIndex := 6, attributes := #[] }, { accessFlags := 10, nameIndex := 20, descriptorIndex := 21, attributes := #[] }, { accessFlags := 9, nameIndex := 34, descriptorIndex := 35, attributes := #[] }] 49 2 #[] #[])
  fields := #[]
  methods := #[k1m0, k1m1, k1m2]
  instanceTypes := #[]
  staticTypes := #[]
  resolved := Array.replicate 40 none
  statics := none }

def pool2 : Array CpInfo := pool [(1, .class_ 2), (0, u "java/io/Serializable"), (0, .class_ 4), (0, u "java/lang/Object")] 2

/-- java/io/Serializable -/
def k2 : Class := { plain "java/io/Serializable" (some 0) with
  accessFlags := 1537
  interfaces := #[]
  cf := some (fileOf pool2 1 #[] #[] 1537 3 #[] #[])
  fields := #[]
  methods := #[]
  instanceTypes := #[]
  staticTypes := #[]
  resolved := Array.replicate 7 none
  statics := none }

def pool3 : Array CpInfo := pool [(1, .class_ 2), (0, u "java/lang/Comparable"), (0, .class_ 4), (0, u "java/lang/Object")] 7

/-- java/lang/Comparable -/
def k3 : Class := { plain "java/lang/Comparable" (some 0) with
  accessFlags := 1537
  interfaces := #[]
  cf := some (fileOf pool3 1 #[] #[] 1537 3 #[] #[])
  fields := #[]
  methods := #[]
  instanceTypes := #[]
  staticTypes := #[]
  resolved := Array.replicate 12 none
  statics := none }

def pool4 : Array CpInfo := pool [(2, .class_ 4), (1, u "java/lang/CharSequence"), (42, .class_ 48), (0, u "java/lang/CharSequence$1CodePointIterator"), (10, .class_ 60), (0, u "java/lang/CharSequence$1CharIterator"), (5, .class_ 67), (0, u "java/lang/Object")] 63

/-- java/lang/CharSequence -/
def k4 : Class := { plain "java/lang/CharSequence" (some 0) with
  accessFlags := 1537
  interfaces := #[]
  cf := some (fileOf pool4 2 #[.nestMembers #[47, 59]] #[] 1537 66 #[] #[])
  fields := #[]
  methods := #[]
  instanceTypes := #[]
  staticTypes := #[]
  resolved := Array.replicate 131 none
  statics := none }

def pool5 : Array CpInfo := pool [(1, .class_ 2), (0, u "java/lang/constant/Constable"), (0, .class_ 4), (0, u "java/lang/Object")] 6

/-- java/lang/constant/Constable -/
def k5 : Class := { plain "java/lang/constant/Constable" (some 0) with
  accessFlags := 1537
  interfaces := #[]
  cf := some (fileOf pool5 1 #[] #[] 1537 3 #[] #[])
  fields := #[]
  methods := #[]
  instanceTypes := #[]
  staticTypes := #[]
  resolved := Array.replicate 11 none
  statics := none }

def pool6 : Array CpInfo := pool [(1, .class_ 2), (0, u "java/lang/constant/ConstantDesc"), (0, .class_ 4), (0, u "java/lang/Object")] 32

/-- java/lang/constant/ConstantDesc -/
def k6 : Class := { plain "java/lang/constant/ConstantDesc" (some 0) with
  accessFlags := 1537
  interfaces := #[]
  cf := some (fileOf pool6 1 #[] #[] 1537 3 #[] #[])
  fields := #[]
  methods := #[]
  instanceTypes := #[]
  staticTypes := #[]
  resolved := Array.replicate 37 none
  statics := none }

def pool7 : Array CpInfo := pool [(1, .methodref 2 3), (0, .class_ 4), (0, .nameAndType 5 6), (0, u "java/lang/Object"), (0, u "<init>"), (0, u "()V"), (0, .string 8), (0, u ""), (0, .fieldref 10 11), (0, .class_ 12), (0, .nameAndType 13 14), (0, u "java/lang/String"), (0, u "value"), (0, u "[B"), (0, .fieldref 10 16), (0, .nameAndType 17 18), (0, u "coder"), (0, u "B"), (2, u "hash"), (0, u "I"), (2, u "hashIsZero"), (0, u "Z"), (0, .methodref 10 28), (0, .nameAndType 5 29), (0, u "([CIILjava/lang/Void;)V"), (8, .fieldref 10 39), (0, .nameAndType 40 26), (0, u "COMPACT_STRINGS"), (12, u "toBytes"), (53, .class_ 109), (1, u "java/lang/StringLatin1"), (99, .methodref 10 210), (0, .nameAndType 5 211), (0, u "([BB)V"), (157, u "(C)Z"), (205, .class_ 576), (0, u "java/lang/CharSequence"), (22, u "CASE_INSENSITIVE_ORDER"), (0, u "Ljava/util/Comparator;"), (181, u "valueOf"), (0, u "(C)Ljava/lang/String;"), (226, u "([C)V"), (4, .methodref 107 1016), (0, .nameAndType 1017 369), (0, u "canEncode"), (0, .methodref 107 1019), (0, .nameAndType 53 1020), (0, u "(C)[B"), (80, u "serialPersistentFields"), (0, u "[Ljava/io/ObjectStreamField;"), (0, .class_ 1104), (0, u "java/lang/String$CaseInsensitiveComparator"), (1, .class_ 1107), (0, u "java/io/Serializable"), (0, .class_ 1109), (0, u "java/lang/Comparable"), (0, .class_ 1111), (0, u "java/lang/constant/Constable"), (0, .class_ 1113), (0, u "java/lang/constant/ConstantDesc"), (2, u "serialVersionUID"), (0, u "J"), (3, u "REPL"), (0, u "C"), (2, u "LATIN1"), (1, u "UTF16")] 323

def k7m0 : Method := { name := "<init>", desc := "()V", sig := { parameters := [], returnType := none }, accessFlags := 1, code := none }
def k7c1 : Code := { maxStack := 5, maxLocals := 2, code := jdk_42_method_3_code, exceptionTable := #[], attributes := #[] }
def k7m1 : Method := { name := "<init>", desc := "([C)V", sig := { parameters := [(.array .char)], returnType := none }, accessFlags := 1, code := some k7c1 }
def k7c2 : Code := { maxStack := 4, maxLocals := 1, code := jdk_42_method_139_code, exceptionTable := #[], attributes := #[] }
def k7m2 : Method := { name := "valueOf", desc := "(C)Ljava/lang/String;", sig := { parameters := [.char], returnType := some (.object "java/lang/String") }, accessFlags := 9, code := some k7c2 }
def k7c3 : Code := { maxStack := 4, maxLocals := 6, code := jdk_42_method_149_code, exceptionTable := #[], attributes := #[] }
def k7m3 : Method := { name := "<init>", desc := "([CIILjava/lang/Void;)V", sig := { parameters := [(.array .char), .int, .int, (.object "java/lang/Void")], returnType := none }, accessFlags := 2, code := some k7c3 }
def k7c4 : Code := { maxStack := 2, maxLocals := 3, code := jdk_42_method_151_code, exceptionTable := #[], attributes := #[] }
def k7m4 : Method := { name := "<init>", desc := "([BB)V", sig := { parameters := [(.array .byte), .byte], returnType := none }, accessFlags := 0, code := some k7c4 }
/-- java/lang/String -/
def k7 : Class := { plain "java/lang/String" (some 0) with
  accessFlags := 49
  interfaces := #[2, 3, 4, 5, 6]
  cf := some (fileOf pool7 10 #[.nestMembers #[1103]] #[{ accessFlags := 1, nameIndex := 5, descriptorIndex := 6, attributes := #[] }, { accessFlags := 1, nameIndex := 5, descriptorIndex := 1010, attributes := #[] }, { accessFlags := 9, nameIndex := 782, descriptorIndex := 783, attributes := #[] }, { accessFlags := 2, nameIndex := 5, descriptorIndex := 29, attributes := #[] }, { accessFlags := 0, nameIndex := 5, descriptorIndex := 211, attributes := #[] }] 49 2 #[1106, 1108, 575, 1110, 1112] #[{ accessFlags := 18, nameIndex := 13, descriptorIndex := 14, attributes := #[] }, { accessFlags := 18, nameIndex := 17, descriptorIndex := 18, attributes := #[] }, { accessFlags := 2, nameIndex := 21, descriptorIndex := 22, attributes := #[] }, { accessFlags := 2, nameIndex := 25, descriptorIndex := 26, attributes := #[] }, { accessFlags := 26, nameIndex := 1116, descriptorIndex := 1117, attributes := #[] }, { accessFlags := 24, nameIndex := 40, descriptorIndex := 26, attributes := #[] }, { accessFlags := 26, nameIndex := 1101, descriptorIndex := 1102, attributes := #[] }, { accessFlags := 26, nameIndex := 1121, descriptorIndex := 1122, attributes := #[] }, { accessFlags := 25, nameIndex := 599, descriptorIndex := 600, attributes := #[] }, { accessFlags := 24, nameIndex := 1125, descriptorIndex := 18, attributes := #[] }, { accessFlags := 24, nameIndex := 1127, descriptorIndex := 18, attributes := #[] }])
  fields := #[{ name := "value", type := (.array .byte), accessFlags := 18, slot := 0, constantValue := 0 }, { name := "coder", type := .byte, accessFlags := 18, slot := 1, constantValue := 0 }, { name := "hash", type := .int, accessFlags := 2, slot := 2, constantValue := 0 }, { name := "hashIsZero", type := .boolean, accessFlags := 2, slot := 3, constantValue := 0 }, { name := "serialVersionUID", type := .long, accessFlags := 26, slot := 0, constantValue := 0 }, { name := "COMPACT_STRINGS", type := .boolean, accessFlags := 24, slot := 1, constantValue := 0 }, { name := "serialPersistentFields", type := (.array (.object "java/io/ObjectStreamField")), accessFlags := 26, slot := 2, constantValue := 0 }, { name := "REPL", type := .char, accessFlags := 26, slot := 3, constantValue := 0 }, { name := "CASE_INSENSITIVE_ORDER", type := (.object "java/util/Comparator"), accessFlags := 25, slot := 4, constantValue := 0 }, { name := "LATIN1", type := .byte, accessFlags := 24, slot := 5, constantValue := 0 }, { name := "UTF16", type := .byte, accessFlags := 24, slot := 6, constantValue := 0 }]
  methods := #[k7m0, k7m1, k7m2, k7m3, k7m4]
  instanceTypes := #[(.array .byte), .byte, .int, .boolean]
  staticTypes := #[.long, .boolean, (.array (.object "java/io/ObjectStreamField")), .char, (.object "java/util/Comparator"), .byte, .byte]
  resolved := Array.replicate 1451 none
  statics := some 0 }

def pool8 : Array CpInfo := pool [(1, .methodref 2 3), (0, .class_ 4), (0, .nameAndType 5 6), (0, u "java/lang/Object"), (0, u "<init>"), (0, u "()V"), (0, .class_ 8), (0, u "java/lang/Record")] 13

def k8c0 : Code := { maxStack := 1, maxLocals := 1, code := jdk_30_method_1_code, exceptionTable := #[], attributes := #[] }
def k8m0 : Method := { name := "<init>", desc := "()V", sig := { parameters := [], returnType := none }, accessFlags := 4, code := some k8c0 }
/-- java/lang/Record -/
def k8 : Class := { plain "java/lang/Record" (some 0) with
  accessFlags := 1057
  interfaces := #[]
  cf := some (fileOf pool8 7 #[] #[{ accessFlags := 4, nameIndex := 5, descriptorIndex := 6, attributes := #[] }] 1057 2 #[] #[])
  fields := #[]
  methods := #[k8m0]
  instanceTypes := #[]
  staticTypes := #[]
  resolved := Array.replicate 22 none
  statics := none }

def pool9 : Array CpInfo := pool [(1, .methodref 2 3), (0, .class_ 4), (0, .nameAndType 5 6), (0, u "java/lang/Record"), (0, u "<init>"), (0, u "()V"), (0, .fieldref 8 9), (0, .class_ 10), (0, .nameAndType 11 12), (0, u "com/example/keelstone/keelstone/store/FollowUp"), (0, u "identifier"), (0, u "Ljava/lang/String;"), (0, .fieldref 8 14), (0, .nameAndType 15 12), (0, u "seriesId"), (0, .fieldref 8 17), (0, .nameAndType 18 12), (0, u "replaced"), (0, .fieldref 8 20), (0, .nameAndType 21 22), (0, u "replacedSystemMetadata"), (0, u "[B"), (20, u "(Ljava/lang/String;Ljava/lang/String;Ljava/lang/String;[B)V"), (74, u "SERIES_FILE"), (1, u "REPLACED_FILE"), (0, u "REPLACED_SYSTEM_METADATA_FILE"), (7, u "isEmpty"), (0, u "()Z")] 55

def k9c0 : Code := { maxStack := 2, maxLocals := 5, code := prog_40_method_1_code, exceptionTable := #[], attributes := #[] }
def k9m0 : Method := { name := "<init>", desc := "(Ljava/lang/String;Ljava/lang/String;Ljava/lang/String;[B)V", sig := { parameters := [(.object "java/lang/String"), (.object "java/lang/String"), (.object "java/lang/String"), (.array .byte)], returnType := none }, accessFlags := 0, code := some k9c0 }
def k9c1 : Code := { maxStack := 1, maxLocals := 1, code := prog_40_method_3_code, exceptionTable := #[], attributes := #[] }
def k9m1 : Method := { name := "isEmpty", desc := "()Z", sig := { parameters := [], returnType := some .boolean }, accessFlags := 0, code := some k9c1 }
/-- com/example/keelstone/keelstone/store/FollowUp -/
def k9 : Class := { plain "com/example/keelstone/keelstone/store/FollowUp" (some 8) with
  accessFlags := 48
  interfaces := #[]
  cf := some (fileOf pool9 8 #[] #[{ accessFlags := 0, nameIndex := 5, descriptorIndex := 43, attributes := #[] }, { accessFlags := 0, nameIndex := 129, descriptorIndex := 130, attributes := #[] }] 48 2 #[] #[{ accessFlags := 18, nameIndex := 11, descriptorIndex := 12, attributes := #[] }, { accessFlags := 18, nameIndex := 15, descriptorIndex := 12, attributes := #[] }, { accessFlags := 18, nameIndex := 18, descriptorIndex := 12, attributes := #[] }, { accessFlags := 18, nameIndex := 21, descriptorIndex := 22, attributes := #[] }, { accessFlags := 26, nameIndex := 118, descriptorIndex := 12, attributes := #[] }, { accessFlags := 26, nameIndex := 120, descriptorIndex := 12, attributes := #[] }, { accessFlags := 26, nameIndex := 121, descriptorIndex := 12, attributes := #[] }])
  fields := #[{ name := "identifier", type := (.object "java/lang/String"), accessFlags := 18, slot := 0, constantValue := 0 }, { name := "seriesId", type := (.object "java/lang/String"), accessFlags := 18, slot := 1, constantValue := 0 }, { name := "replaced", type := (.object "java/lang/String"), accessFlags := 18, slot := 2, constantValue := 0 }, { name := "replacedSystemMetadata", type := (.array .byte), accessFlags := 18, slot := 3, constantValue := 0 }, { name := "SERIES_FILE", type := (.object "java/lang/String"), accessFlags := 26, slot := 0, constantValue := 0 }, { name := "REPLACED_FILE", type := (.object "java/lang/String"), accessFlags := 26, slot := 1, constantValue := 0 }, { name := "REPLACED_SYSTEM_METADATA_FILE", type := (.object "java/lang/String"), accessFlags := 26, slot := 2, constantValue := 0 }]
  methods := #[k9m0, k9m1]
  instanceTypes := #[(.object "java/lang/String"), (.object "java/lang/String"), (.object "java/lang/String"), (.array .byte)]
  staticTypes := #[(.object "java/lang/String"), (.object "java/lang/String"), (.object "java/lang/String")]
  resolved := Array.replicate 186 none
  statics := none }

def pool10 : Array CpInfo := pool [(4, .class_ 6), (1, u "java/lang/Object"), (0, u "<init>"), (0, u "()V"), (5, .class_ 16), (1, u "java/lang/StringLatin1"), (73, u "canEncode"), (14, u "(C)Z"), (15, u "$assertionsDisabled"), (0, u "Z"), (98, .class_ 223), (1, u "java/lang/StringLatin1$LinesSpliterator"), (156, u "toBytes"), (1, u "(C)[B"), (7, .class_ 391), (0, u "java/lang/StringLatin1$CharsSpliterator")] 3

def k10m0 : Method := { name := "<init>", desc := "()V", sig := { parameters := [], returnType := none }, accessFlags := 0, code := none }
def k10c1 : Code := { maxStack := 2, maxLocals := 1, code := jdk_43_method_3_code, exceptionTable := #[], attributes := #[] }
def k10m1 : Method := { name := "canEncode", desc := "(C)Z", sig := { parameters := [.char], returnType := some .boolean }, accessFlags := 9, code := some k10c1 }
def k10c2 : Code := { maxStack := 4, maxLocals := 1, code := jdk_43_method_46_code, exceptionTable := #[], attributes := #[] }
def k10m2 : Method := { name := "toBytes", desc := "(C)[B", sig := { parameters := [.char], returnType := some (.array .byte) }, accessFlags := 9, code := some k10c2 }
/-- java/lang/StringLatin1 -/
def k10 : Class := { plain "java/lang/StringLatin1" (some 0) with
  accessFlags := 48
  interfaces := #[]
  cf := some (fileOf pool10 14 #[.nestMembers #[390, 221]] #[{ accessFlags := 0, nameIndex := 7, descriptorIndex := 8, attributes := #[] }, { accessFlags := 9, nameIndex := 90, descriptorIndex := 105, attributes := #[] }, { accessFlags := 9, nameIndex := 380, descriptorIndex := 382, attributes := #[] }] 48 4 #[] #[{ accessFlags := 4120, nameIndex := 121, descriptorIndex := 122, attributes := #[] }])
  fields := #[{ name := "$assertionsDisabled", type := .boolean, accessFlags := 4120, slot := 0, constantValue := 0 }]
  methods := #[k10m0, k10m1, k10m2]
  instanceTypes := #[]
  staticTypes := #[.boolean]
  resolved := Array.replicate 395 none
  statics := none }

def pool11 : Array CpInfo := pool [(2, .class_ 4), (1, u "java/lang/Object"), (0, u "<init>"), (0, u "()V"), (17, .class_ 26), (1, u "jdk/internal/util/Preconditions"), (28, .class_ 56), (0, u "jdk/internal/util/Preconditions$4"), (57, .class_ 115), (0, u "jdk/internal/util/Preconditions$1"), (7, u "SIOOBE_FORMATTER"), (0, u "Ljava/util/function/BiFunction;"), (0, .class_ 126), (0, u "jdk/internal/util/Preconditions$2"), (3, u "AIOOBE_FORMATTER"), (0, .class_ 132), (0, u "jdk/internal/util/Preconditions$3"), (3, u "IOOBE_FORMATTER")] 57

def k11m0 : Method := { name := "<init>", desc := "()V", sig := { parameters := [], returnType := none }, accessFlags := 1, code := none }
/-- jdk/internal/util/Preconditions -/
def k11 : Class := { plain "jdk/internal/util/Preconditions" (some 0) with
  accessFlags := 33
  interfaces := #[]
  cf := some (fileOf pool11 24 #[.nestMembers #[55, 131, 125, 114]] #[{ accessFlags := 1, nameIndex := 5, descriptorIndex := 6, attributes := #[] }] 33 2 #[] #[{ accessFlags := 25, nameIndex := 123, descriptorIndex := 124, attributes := #[] }, { accessFlags := 25, nameIndex := 130, descriptorIndex := 124, attributes := #[] }, { accessFlags := 25, nameIndex := 136, descriptorIndex := 124, attributes := #[] }])
  fields := #[{ name := "SIOOBE_FORMATTER", type := (.object "java/util/function/BiFunction"), accessFlags := 25, slot := 0, constantValue := 0 }, { name := "AIOOBE_FORMATTER", type := (.object "java/util/function/BiFunction"), accessFlags := 25, slot := 1, constantValue := 0 }, { name := "IOOBE_FORMATTER", type := (.object "java/util/function/BiFunction"), accessFlags := 25, slot := 2, constantValue := 0 }]
  methods := #[k11m0]
  instanceTypes := #[]
  staticTypes := #[(.object "java/util/function/BiFunction"), (.object "java/util/function/BiFunction"), (.object "java/util/function/BiFunction")]
  resolved := Array.replicate 194 none
  statics := some 1 }

def pool12 : Array CpInfo := pool [(9, u "<init>"), (6, .class_ 18), (1, u "java/lang/Object"), (0, u "()V"), (1, .class_ 23), (1, u "jdk/internal/util/ArraysSupport"), (0, u "LOG2_ARRAY_LONG_INDEX_SCALE"), (0, u "I"), (2, u "U"), (0, u "Ljdk/internal/misc/Unsafe;"), (8, u "BIG_ENDIAN"), (0, u "Z"), (8, u "LOG2_BYTE_BIT_SIZE"), (4, u "LOG2_ARRAY_INT_INDEX_SCALE"), (54, u "JLA"), (0, u "Ljdk/internal/access/JavaLangAccess;"), (11, u "LOG2_ARRAY_BOOLEAN_INDEX_SCALE"), (9, u "LOG2_ARRAY_BYTE_INDEX_SCALE"), (5, u "LOG2_ARRAY_CHAR_INDEX_SCALE"), (5, u "LOG2_ARRAY_SHORT_INDEX_SCALE"), (18, u "LOG2_ARRAY_FLOAT_INDEX_SCALE"), (24, u "LOG2_ARRAY_DOUBLE_INDEX_SCALE"), (89, u "T_BOOLEAN"), (2, u "T_CHAR"), (1, u "T_FLOAT"), (1, u "T_DOUBLE"), (1, u "T_BYTE"), (1, u "T_SHORT"), (1, u "T_INT"), (1, u "T_LONG"), (1, u "SOFT_MAX_ARRAY_LENGTH")] 83

def k12m0 : Method := { name := "<init>", desc := "()V", sig := { parameters := [], returnType := none }, accessFlags := 2, code := none }
/-- jdk/internal/util/ArraysSupport -/
def k12 : Class := { plain "jdk/internal/util/ArraysSupport" (some 0) with
  accessFlags := 33
  interfaces := #[]
  cf := some (fileOf pool12 21 #[] #[{ accessFlags := 2, nameIndex := 9, descriptorIndex := 19, attributes := #[] }] 33 16 #[] #[{ accessFlags := 24, nameIndex := 28, descriptorIndex := 29, attributes := #[] }, { accessFlags := 26, nameIndex := 38, descriptorIndex := 39, attributes := #[] }, { accessFlags := 25, nameIndex := 121, descriptorIndex := 25, attributes := #[] }, { accessFlags := 25, nameIndex := 131, descriptorIndex := 25, attributes := #[] }, { accessFlags := 25, nameIndex := 137, descriptorIndex := 25, attributes := #[] }, { accessFlags := 25, nameIndex := 143, descriptorIndex := 25, attributes := #[] }, { accessFlags := 25, nameIndex := 53, descriptorIndex := 25, attributes := #[] }, { accessFlags := 25, nameIndex := 24, descriptorIndex := 25, attributes := #[] }, { accessFlags := 25, nameIndex := 162, descriptorIndex := 25, attributes := #[] }, { accessFlags := 25, nameIndex := 187, descriptorIndex := 25, attributes := #[] }, { accessFlags := 26, nameIndex := 48, descriptorIndex := 25, attributes := #[] }, { accessFlags := 25, nameIndex := 277, descriptorIndex := 25, attributes := #[] }, { accessFlags := 25, nameIndex := 280, descriptorIndex := 25, attributes := #[] }, { accessFlags := 25, nameIndex := 282, descriptorIndex := 25, attributes := #[] }, { accessFlags := 25, nameIndex := 284, descriptorIndex := 25, attributes := #[] }, { accessFlags := 25, nameIndex := 286, descriptorIndex := 25, attributes := #[] }, { accessFlags := 25, nameIndex := 288, descriptorIndex := 25, attributes := #[] }, { accessFlags := 25, nameIndex := 290, descriptorIndex := 25, attributes := #[] }, { accessFlags := 25, nameIndex := 292, descriptorIndex := 25, attributes := #[] }, { accessFlags := 26, nameIndex := 108, descriptorIndex := 109, attributes := #[] }, { accessFlags := 25, nameIndex := 294, descriptorIndex := 25, attributes := #[] }])
  fields := #[{ name := "U", type := (.object "jdk/internal/misc/Unsafe"), accessFlags := 24, slot := 0, constantValue := 0 }, { name := "BIG_ENDIAN", type := .boolean, accessFlags := 26, slot := 1, constantValue := 0 }, { name := "LOG2_ARRAY_BOOLEAN_INDEX_SCALE", type := .int, accessFlags := 25, slot := 2, constantValue := 0 }, { name := "LOG2_ARRAY_BYTE_INDEX_SCALE", type := .int, accessFlags := 25, slot := 3, constantValue := 0 }, { name := "LOG2_ARRAY_CHAR_INDEX_SCALE", type := .int, accessFlags := 25, slot := 4, constantValue := 0 }, { name := "LOG2_ARRAY_SHORT_INDEX_SCALE", type := .int, accessFlags := 25, slot := 5, constantValue := 0 }, { name := "LOG2_ARRAY_INT_INDEX_SCALE", type := .int, accessFlags := 25, slot := 6, constantValue := 0 }, { name := "LOG2_ARRAY_LONG_INDEX_SCALE", type := .int, accessFlags := 25, slot := 7, constantValue := 0 }, { name := "LOG2_ARRAY_FLOAT_INDEX_SCALE", type := .int, accessFlags := 25, slot := 8, constantValue := 0 }, { name := "LOG2_ARRAY_DOUBLE_INDEX_SCALE", type := .int, accessFlags := 25, slot := 9, constantValue := 0 }, { name := "LOG2_BYTE_BIT_SIZE", type := .int, accessFlags := 26, slot := 10, constantValue := 0 }, { name := "T_BOOLEAN", type := .int, accessFlags := 25, slot := 11, constantValue := 0 }, { name := "T_CHAR", type := .int, accessFlags := 25, slot := 12, constantValue := 0 }, { name := "T_FLOAT", type := .int, accessFlags := 25, slot := 13, constantValue := 0 }, { name := "T_DOUBLE", type := .int, accessFlags := 25, slot := 14, constantValue := 0 }, { name := "T_BYTE", type := .int, accessFlags := 25, slot := 15, constantValue := 0 }, { name := "T_SHORT", type := .int, accessFlags := 25, slot := 16, constantValue := 0 }, { name := "T_INT", type := .int, accessFlags := 25, slot := 17, constantValue := 0 }, { name := "T_LONG", type := .int, accessFlags := 25, slot := 18, constantValue := 0 }, { name := "JLA", type := (.object "jdk/internal/access/JavaLangAccess"), accessFlags := 26, slot := 19, constantValue := 0 }, { name := "SOFT_MAX_ARRAY_LENGTH", type := .int, accessFlags := 25, slot := 20, constantValue := 0 }]
  methods := #[k12m0]
  instanceTypes := #[]
  staticTypes := #[(.object "jdk/internal/misc/Unsafe"), .boolean, .int, .int, .int, .int, .int, .int, .int, .int, .int, .int, .int, .int, .int, .int, .int, .int, .int, (.object "jdk/internal/access/JavaLangAccess"), .int]
  resolved := Array.replicate 378 none
  statics := none }

def pool13 : Array CpInfo := pool [(1, u "java/lang/Cloneable"), (0, .class_ 1), (0, u "java/lang/Object"), (0, .class_ 3)] 3

/-- java/lang/Cloneable -/
def k13 : Class := { plain "java/lang/Cloneable" (some 0) with
  accessFlags := 1537
  interfaces := #[]
  cf := some (fileOf pool13 2 #[] #[] 1537 4 #[] #[])
  fields := #[]
  methods := #[]
  instanceTypes := #[]
  staticTypes := #[]
  resolved := Array.replicate 8 none
  statics := none }

/-- the primitive byte -/
def k14 : Class := { plain "byte" none with kind := .primitive 'B', accessFlags := 0x411 }
/-- [B -/
def k15 : Class := { plain "[B" (some 0) with kind := .array 14 .byte, interfaces := #[13, 2], accessFlags := 1041 }

/-- the primitive char -/
def k16 : Class := { plain "char" none with kind := .primitive 'C', accessFlags := 0x411 }
/-- [C -/
def k17 : Class := { plain "[C" (some 0) with kind := .array 16 .char, interfaces := #[13, 2], accessFlags := 1041 }

def heap : Heap := #[{ cls := 7, slots := #[.long 0, .int 1, .null, .int 0, .null, .int 0, .int 0], vm := .statics 7 },
  { cls := 11, slots := #[.null, .null, .null], vm := .statics 11 }]
def classes : Array Class := #[k0, k1, k2, k3, k4, k5, k6, k7, k8, k9, k10, k11, k12, k13, k14, k15, k16, k17]
def interned : List (Array UInt16 × Addr) := []
def slotsUsed : Nat := 10
def theMethod : MethodId := ⟨1, 2⟩
def args0 : Array Value := #[.int 5, .int 5, .int 5, .int 5, .int 5]
def aboutOver (below : List Frame) : State where
  vm := { classes := classes, interned := interned.toArray }
  heap := heap
  slotsUsed := slotsUsed
  threads := #[{ frames := .invoking theMethod args0 :: below }]
def below0 : List Frame := [.native { method := ⟨0, 0⟩, args := #[] }]
def about1 : State := aboutOver below0
def p0 : Program := .bare "" "" ""
def e0 : Env := launch0.env 0 0 0
theorem w_frames : about1.frames = Frame.invoking theMethod args0 :: below0 := rfl
set_option maxRecDepth 65536 in
theorem w_args : argsFit about1.vm theMethod args0 = true := by decide +kernel
set_option maxRecDepth 65536 in
theorem w_heap : heapFits about1 = true := by decide +kernel
set_option maxRecDepth 65536 in
theorem w_runnable : about1.curStatus? = some .runnable := by decide +kernel
set_option maxRecDepth 65536 in
theorem w_alone : about1.alone = true := by decide +kernel
set_option maxRecDepth 65536 in
theorem w_named : about1.methodNamed? x = some theMethod := by decide +kernel
set_option maxRecDepth 65536 in
theorem w_hears : about1.hears theMethod below0 = true := by decide +kernel
set_option maxRecDepth 65536 in
theorem w_ripe : about1.ripe theMethod args0 below0 = true := by decide +kernel
theorem w_running : about1.status = .running := rfl
set_option maxRecDepth 65536 in
theorem w_room : about1.hasRoom e0.platform room_1 = true :=
  launch0.hasRoom_least _ room_1 (by decide +kernel) (by decide +kernel) (by decide +kernel) (by decide +kernel) (by decide +kernel) (by decide +kernel)
theorem allAtoms_all (ts : List Jvm.Cond) (a : Array Jvm.Value) (st : Jvm.State) : (allAtoms ts).before a st = ts.all (fun c => c.before a st) := by
  induction ts with
  | nil => rfl
  | cons c t ih =>
    show (Jvm.Cond.and c (allAtoms t)).before a st = _
    rw [Jvm.Cond.before_and, ih, List.all_cons]
def words1 : List Jvm.Cond := Jvm.Cond.code x code maxLocals ret :: tables_1
/-- a 'code' word, met by the world's own term for the bytes: nothing is compared byte by byte -/
theorem code_word {y : MethodName} {bytes : ByteArray} {mx : Nat} {rt : Option FieldType} {a : Array Value} {s : State} {m : MethodId} {meth : Method} {c : Code} (h1 : s.methodNamed? y = some m) (h2 : s.vm.method? m = some meth) (h3 : meth.code = some c) (h4 : c.code = bytes)
    (h5 : (c.maxLocals == mx && c.exceptionTable.isEmpty && decide (c.maxStack ≤ mostOperands) && decide (meth.sig.returnType = rt) && !meth.locks && decide (parseMethodDescriptor y.desc = some meth.sig)) = true) : (Jvm.Cond.code y bytes mx rt).before a s = true := by
  simp only [Bool.and_eq_true, beq_iff_eq, Bool.not_eq_true', decide_eq_true_eq] at h5
  obtain ⟨⟨⟨⟨⟨g1, g2⟩, g3⟩, g4⟩, g5⟩, g6⟩ := h5
  simp [Cond.before, Cond.holds, Cond.value, h1, h2, h3, h4, g1, g2, g3, g4, g5, g6]
def isCode : Jvm.Cond → Bool
  | .code _ _ _ _ => true
  | _ => false
theorem all_split {L : List Jvm.Cond} {P : Jvm.Cond → Bool} (h1 : L.all (fun c => isCode c || P c) = true) (h2 : ∀ c ∈ L.filter isCode, P c = true) : L.all P = true := by
  refine List.all_eq_true.mpr fun c hc => ?_
  have h := List.all_eq_true.mp h1 c hc
  rcases Bool.eq_false_or_eq_true (isCode c) with hi | hi
  · exact h2 c (List.mem_filter.mpr ⟨hc, hi⟩)
  · simpa [hi] using h
set_option maxRecDepth 65536 in
theorem w_c0 : (Jvm.Cond.code x code maxLocals ret).before args0 about1 = true := code_word (m := ⟨1, 2⟩) (meth := k1m2) (c := k1c2) (by decide +kernel) rfl rfl rfl (by decide +kernel)
set_option maxRecDepth 65536 in
theorem w_c1 : (Jvm.Cond.code ({ cls := "com/example/keelstone/keelstone/store/FollowUpIsEmptyPinLaw", name := "draw", desc := "(II)Ljava/lang/String;" } : Jvm.MethodName) method_2_code (2 : Nat) (Option.some (Jvm.ClassFile.FieldType.object "java/lang/String"))).before args0 about1 = true := code_word (m := ⟨1, 1⟩) (meth := k1m1) (c := k1c1) (by decide +kernel) rfl rfl rfl (by decide +kernel)
set_option maxRecDepth 65536 in
theorem w_c2 : (Jvm.Cond.code ({ cls := "java/lang/String", name := "<init>", desc := "([C)V" } : Jvm.MethodName) jdk_42_method_3_code (2 : Nat) (Option.none : Option Jvm.ClassFile.FieldType)).before args0 about1 = true := code_word (m := ⟨7, 1⟩) (meth := k7m1) (c := k7c1) (by decide +kernel) rfl rfl rfl (by decide +kernel)
set_option maxRecDepth 65536 in
theorem w_c3 : (Jvm.Cond.code ({ cls := "java/lang/String", name := "<init>", desc := "([CIILjava/lang/Void;)V" } : Jvm.MethodName) jdk_42_method_149_code (6 : Nat) (Option.none : Option Jvm.ClassFile.FieldType)).before args0 about1 = true := code_word (m := ⟨7, 3⟩) (meth := k7m3) (c := k7c3) (by decide +kernel) rfl rfl rfl (by decide +kernel)
set_option maxRecDepth 65536 in
theorem w_c4 : (Jvm.Cond.code ({ cls := "java/lang/Object", name := "<init>", desc := "()V" } : Jvm.MethodName) object_method_1_code (1 : Nat) (Option.none : Option Jvm.ClassFile.FieldType)).before args0 about1 = true := code_word (m := ⟨0, 0⟩) (meth := k0m0) (c := k0c0) (by decide +kernel) rfl rfl rfl (by decide +kernel)
set_option maxRecDepth 65536 in
theorem w_c5 : (Jvm.Cond.code ({ cls := "com/example/keelstone/keelstone/store/FollowUp", name := "<init>", desc := "(Ljava/lang/String;Ljava/lang/String;Ljava/lang/String;[B)V" } : Jvm.MethodName) prog_40_method_1_code (5 : Nat) (Option.none : Option Jvm.ClassFile.FieldType)).before args0 about1 = true := code_word (m := ⟨9, 0⟩) (meth := k9m0) (c := k9c0) (by decide +kernel) rfl rfl rfl (by decide +kernel)
set_option maxRecDepth 65536 in
theorem w_c6 : (Jvm.Cond.code ({ cls := "java/lang/Record", name := "<init>", desc := "()V" } : Jvm.MethodName) jdk_30_method_1_code (1 : Nat) (Option.none : Option Jvm.ClassFile.FieldType)).before args0 about1 = true := code_word (m := ⟨8, 0⟩) (meth := k8m0) (c := k8c0) (by decide +kernel) rfl rfl rfl (by decide +kernel)
set_option maxRecDepth 65536 in
theorem w_c7 : (Jvm.Cond.code ({ cls := "com/example/keelstone/keelstone/store/FollowUp", name := "isEmpty", desc := "()Z" } : Jvm.MethodName) prog_40_method_3_code (1 : Nat) (Option.some Jvm.ClassFile.FieldType.boolean)).before args0 about1 = true := code_word (m := ⟨9, 1⟩) (meth := k9m1) (c := k9c1) (by decide +kernel) rfl rfl rfl (by decide +kernel)
set_option maxRecDepth 65536 in
theorem w_c8 : (Jvm.Cond.code ({ cls := "java/lang/String", name := "valueOf", desc := "(C)Ljava/lang/String;" } : Jvm.MethodName) jdk_42_method_139_code (1 : Nat) (Option.some (Jvm.ClassFile.FieldType.object "java/lang/String"))).before args0 about1 = true := code_word (m := ⟨7, 2⟩) (meth := k7m2) (c := k7c2) (by decide +kernel) rfl rfl rfl (by decide +kernel)
set_option maxRecDepth 65536 in
theorem w_c9 : (Jvm.Cond.code ({ cls := "java/lang/StringLatin1", name := "canEncode", desc := "(C)Z" } : Jvm.MethodName) jdk_43_method_3_code (1 : Nat) (Option.some Jvm.ClassFile.FieldType.boolean)).before args0 about1 = true := code_word (m := ⟨10, 1⟩) (meth := k10m1) (c := k10c1) (by decide +kernel) rfl rfl rfl (by decide +kernel)
set_option maxRecDepth 65536 in
theorem w_c10 : (Jvm.Cond.code ({ cls := "java/lang/StringLatin1", name := "toBytes", desc := "(C)[B" } : Jvm.MethodName) jdk_43_method_46_code (1 : Nat) (Option.some (Jvm.ClassFile.FieldType.array Jvm.ClassFile.FieldType.byte))).before args0 about1 = true := code_word (m := ⟨10, 2⟩) (meth := k10m2) (c := k10c2) (by decide +kernel) rfl rfl rfl (by decide +kernel)
set_option maxRecDepth 65536 in
theorem w_c11 : (Jvm.Cond.code ({ cls := "java/lang/String", name := "<init>", desc := "([BB)V" } : Jvm.MethodName) jdk_42_method_151_code (3 : Nat) (Option.none : Option Jvm.ClassFile.FieldType)).before args0 about1 = true := code_word (m := ⟨7, 4⟩) (meth := k7m4) (c := k7c4) (by decide +kernel) rfl rfl rfl (by decide +kernel)
def codes1 : List Jvm.Cond := [Jvm.Cond.code x code maxLocals ret, Jvm.Cond.code ({ cls := "com/example/keelstone/keelstone/store/FollowUpIsEmptyPinLaw", name := "draw", desc := "(II)Ljava/lang/String;" } : Jvm.MethodName) method_2_code (2 : Nat) (Option.some (Jvm.ClassFile.FieldType.object "java/lang/String")), Jvm.Cond.code ({ cls := "java/lang/String", name := "<init>", desc := "([C)V" } : Jvm.MethodName) jdk_42_method_3_code (2 : Nat) (Option.none : Option Jvm.ClassFile.FieldType), Jvm.Cond.code ({ cls := "java/lang/String", name := "<init>", desc := "([CIILjava/lang/Void;)V" } : Jvm.MethodName) jdk_42_method_149_code (6 : Nat) (Option.none : Option Jvm.ClassFile.FieldType), Jvm.Cond.code ({ cls := "java/lang/Object", name := "<init>", desc := "()V" } : Jvm.MethodName) object_method_1_code (1 : Nat) (Option.none : Option Jvm.ClassFile.FieldType), Jvm.Cond.code ({ cls := "com/example/keelstone/keelstone/store/FollowUp", name := "<init>", desc := "(Ljava/lang/String;Ljava/lang/String;Ljava/lang/String;[B)V" } : Jvm.MethodName) prog_40_method_1_code (5 : Nat) (Option.none : Option Jvm.ClassFile.FieldType), Jvm.Cond.code ({ cls := "java/lang/Record", name := "<init>", desc := "()V" } : Jvm.MethodName) jdk_30_method_1_code (1 : Nat) (Option.none : Option Jvm.ClassFile.FieldType), Jvm.Cond.code ({ cls := "com/example/keelstone/keelstone/store/FollowUp", name := "isEmpty", desc := "()Z" } : Jvm.MethodName) prog_40_method_3_code (1 : Nat) (Option.some Jvm.ClassFile.FieldType.boolean), Jvm.Cond.code ({ cls := "java/lang/String", name := "valueOf", desc := "(C)Ljava/lang/String;" } : Jvm.MethodName) jdk_42_method_139_code (1 : Nat) (Option.some (Jvm.ClassFile.FieldType.object "java/lang/String")), Jvm.Cond.code ({ cls := "java/lang/StringLatin1", name := "canEncode", desc := "(C)Z" } : Jvm.MethodName) jdk_43_method_3_code (1 : Nat) (Option.some Jvm.ClassFile.FieldType.boolean), Jvm.Cond.code ({ cls := "java/lang/StringLatin1", name := "toBytes", desc := "(C)[B" } : Jvm.MethodName) jdk_43_method_46_code (1 : Nat) (Option.some (Jvm.ClassFile.FieldType.array Jvm.ClassFile.FieldType.byte)), Jvm.Cond.code ({ cls := "java/lang/String", name := "<init>", desc := "([BB)V" } : Jvm.MethodName) jdk_42_method_151_code (3 : Nat) (Option.none : Option Jvm.ClassFile.FieldType)]
set_option maxRecDepth 65536 in
theorem codes_eq : words1.filter isCode = codes1 := rfl
theorem w_codes : ∀ c ∈ words1.filter isCode, c.before args0 about1 = true := by
  rw [codes_eq]
  intro c hc
  simp only [codes1, List.mem_cons, List.not_mem_nil, or_false] at hc
  rcases hc with rfl | rfl | rfl | rfl | rfl | rfl | rfl | rfl | rfl | rfl | rfl | rfl
  · exact w_c0
  · exact w_c1
  · exact w_c2
  · exact w_c3
  · exact w_c4
  · exact w_c5
  · exact w_c6
  · exact w_c7
  · exact w_c8
  · exact w_c9
  · exact w_c10
  · exact w_c11
set_option maxRecDepth 65536 in
theorem w_t1 : (words1.take 24).all (fun c => isCode c || c.before args0 about1) = true := by decide +kernel
set_option maxRecDepth 65536 in
theorem w_t2 : ((words1.drop 24).take 24).all (fun c => isCode c || c.before args0 about1) = true := by decide +kernel
set_option maxRecDepth 65536 in
theorem w_t3 : ((words1.drop 24).drop 24).all (fun c => isCode c || c.before args0 about1) = true := by decide +kernel
theorem w_tables : (allAtoms (Jvm.Cond.code x code maxLocals ret :: tables_1)).before args0 about1 = true := by
  rw [allAtoms_all]
  show words1.all (fun c => c.before args0 about1) = true
  refine all_split ?_ w_codes
  rw [← List.take_append_drop 24 words1, List.all_append, w_t1, ← List.take_append_drop 24 (words1.drop 24), List.all_append, w_t2, w_t3]
  rfl
set_option maxRecDepth 65536 in
theorem w_rest : rest_1_c.before args0 about1 = true := by decide +kernel
set_option maxRecDepth 65536 in
theorem w_case : (Jvm.Cond.and given_1 narrow_1).before args0 about1 = true := by decide +kernel
set_option maxRecDepth 65536 in
theorem w_consts : constsHeld consts_1 about1 := Jvm.Lit.constsHeldB_iff.mp (by decide +kernel)
theorem w_applies : (headSpec (Jvm.Cond.code x code maxLocals ret :: tables_1) room_1).applies x e0.platform about1 = true :=
  (Spec.applies_iff w_frames).mpr ⟨w_running, w_runnable, w_alone, w_named, w_hears, w_ripe, w_room, w_tables⟩
theorem atStart : AtStart classFile x code maxLocals ret World_1 tables_1 room_1 Calls_1 rest_1 Pre_1 launch0 p0 e0 about1 theMethod args0 below0 :=
  ⟨lists_1, trivial, launch0.admits_env _ _ _, launch0.least_env, fairChoices_fair.cas, fairChoices_fair.clock, w_frames, w_args, w_heap, w_applies, ⟨w_consts, trivial⟩, w_rest, w_case⟩
end start1
theorem witness_1 : WitnessClaimed_1 := ⟨start1.p0, start1.e0, start1.about1, start1.theMethod, start1.args0, start1.below0, start1.atStart⟩
end Jvm.Pilot.@@N@@
