import JvmDerived
import JvmDerived.Pilot.@@N@@Statement
import JvmDerived.Pilot.@@N@@Code
set_option linter.unusedVariables false
set_option linter.unusedSimpArgs false
namespace Jvm.Pilot.@@N@@
open Jvm Jvm.ClassFile Sem Op Lib Jvm.Free Jvm.Stand Jvm.LawKit Jvm.RoadKit Bundle Jvm.Pilot.@@N@@.Jvm.D
theorem own_w {Z : State} {a0 : Array Value} {d : Jvm.Cond} (hw : ∀ d ∈ tables_1, d.before a0 Z = true) (i : Nat) (h : tables_1[i]? = some d) : d.before a0 Z = true := hw d (List.mem_of_getElem? h)
section OwnKit
variable {p : Program} {l : Launch} {e : Env} {R : Room} {s : State} {m : MethodId} {args : Array Value} {below : List Frame} {meth : Method} {c : Code} {T : State} {locs : List Loc} {cells slots : Nat}
/-- the run from S comes to an end of which Q holds -/
def own_Go (p : Program) (e : Env) (below : List Frame) (Q : Outcome → State → Prop) (S : State) : Prop := ∃ s₂ o, Steps p.tables e below S s₂ ∧ s₂.status = .running ∧ Ended s₂ below o ∧ Q o s₂
theorem own_via {Q : Outcome → State → Prop} {A B : State} (h : ∀ t, Steps p.tables e below B t → Steps p.tables e below A t) (g : own_Go p e below Q B) : own_Go p e below Q A := by
  obtain ⟨s2, o, h1, r⟩ := g
  exact ⟨s2, o, h _ h1, r⟩
theorem own_seq {Q : Outcome → State → Prop} {A B : State} (h : own_Go p e below Q B → own_Go p e below Q A) (k : own_Go p e below Q B) : own_Go p e below Q A := h k
theorem own_cast {Q : Outcome → State → Prop} {g g' : JFrame} (q : g = g') (k : own_Go p e below Q (T.setTop g')) : own_Go p e below Q (T.setTop g) := q ▸ k
theorem own_keep_mono {h0 h : Heap} {ws ws' : List Addr} (K : Keep h0 h ws) (q : ∀ x ∈ ws, x ∈ ws') : Keep h0 h ws' := ⟨K.1, fun x c a b => K.2.1 x c a fun z => b (q x z), K.2.2⟩
theorem own_ret0 {Qv : Option Value → Heap → List Loc → Prop} {kc ks : Nat} (X : Stand p l e R s m args below meth c T locs cells slots) (hlocks : meth.locks = false) (hx : p.tables.exec = Jvm.exec) {pc : Nat} {Ls : Array Slot} (hret : meth.sig.returnType = none) (hd : decode c.code pc = .ok (.return_, 1)) (hk : cells ≤ kc) (hs : slots ≤ ks) (hQ : Qv none T.heap locs) :
    own_Go p e below (fun o U' => ∃ v L, o = .returned v ∧ Qv v U'.heap L ∧ FrameEnd s o U' L kc ks) (T.setTop (mkF m pc Ls [])) := by
  obtain ⟨fs, hr, hrun, hended, hW, hsame⟩ := X.leave (v := none) (fun _ => rfl) hlocks
  exact ⟨_, _, X.returnOut hx hret hd hr, hrun, hended, _, _, rfl, hQ, ⟨_, rfl⟩, hW, hsame.mono hk hs⟩
theorem own_retv {Qv : Option Value → Heap → List Loc → Prop} {kc ks : Nat} (X : Stand p l e R s m args below meth c T locs cells slots) (hlocks : meth.locks = false) (hx : p.tables.exec = Jvm.exec) {pc : Nat} {Ls : Array Slot} {w : Value} {t : FieldType} {i : Instr} {rest : List Value} (hret : meth.sig.returnType = some t) (hn : narrow t w = w)
    (hi : (i = .ireturn ∧ (t = .int ∨ t = .boolean ∨ t = .byte ∨ t = .char ∨ t = .short) ∧ ∃ z, w = .int z) ∨ (i = .lreturn ∧ t = .long ∧ ∃ z, w = .long z) ∨ (i = .dreturn ∧ t = .double ∧ ∃ z, w = .double z) ∨ (i = .freturn ∧ t = .float ∧ ∃ z, w = .float z) ∨ (i = .areturn ∧ t.isReference = true ∧ w.isRef = true))
    (hd : decode c.code pc = .ok (i, 1)) (hk : cells ≤ kc) (hs : slots ≤ ks) (hQ : Qv (some w) T.heap locs) :
    own_Go p e below (fun o U' => ∃ v L, o = .returned v ∧ Qv v U'.heap L ∧ FrameEnd s o U' L kc ks) (T.setTop (mkF m pc Ls (w :: rest))) := by
  obtain ⟨fs, hr, hrun, hended, hW, hsame⟩ := X.leave (v := some w) (fun h => by rw [hret] at h; cases h) hlocks
  exact ⟨_, _, retOut X hx hret hn hi hd hr, hrun, hended, _, _, rfl, hQ, ⟨_, rfl⟩, hW, hsame.mono hk hs⟩
theorem own_pop2L {tb : Tables} [Ours tb] {e : Env} {below : List Frame} {T target : State} {m : MethodId} {c : Code} {g : JFrame} (h : At T m c below) (hx : tb.exec = Jvm.exec) (hg : g.method = m) {x : Int64} {rest : List Value} (hd : decode c.code g.pc = .ok (.pop2, 1)) (hs : g.stack = .long x :: rest)
    (hr : Steps tb e below (T.setTop { g with pc := g.pc + 1, stack := rest }) target) : Steps tb e below (T.setTop g) target := by
  subst hg
  jvm_step h [h.top, hx, hd, hs, Value.category]
  exact hr
theorem own_narR {t : FieldType} {w : Value} (h : w.isRef = true) : narrow t w = w := by
  rcases ref_cases h with rfl | ⟨y, rfl⟩ <;> cases t <;> rfl
theorem own_fitR {C : String} {w : Value} (h : w.isRef = true) : fits (.object C) w = true := by
  rcases ref_cases h with rfl | ⟨y, rfl⟩ <;> rfl
theorem own_fitA {t : FieldType} {w : Value} (h : w.isRef = true) : fits (.array t) w = true := by
  rcases ref_cases h with rfl | ⟨y, rfl⟩ <;> rfl
end OwnKit

theorem own_rem (x : Int32) : ¬ ((x % (1000000000 : Int32)).toInt64 < (-999999999 : Int64)) ∧ ¬ ((999999999 : Int64) < (x % (1000000000 : Int32)).toInt64) := by
  have h : (x % (1000000000 : Int32)).toInt = x.toInt.tmod 1000000000 := by
    rw [Int32.toInt_mod]; rfl
  have h1 := Int.lt_tmod_of_pos x.toInt (show (0:Int) < 1000000000 by decide)
  have h2 := Int.tmod_lt_of_pos x.toInt (show (0:Int) < 1000000000 by decide)
  refine ⟨fun q => ?_, fun q => ?_⟩
  · have q' := Int64.lt_iff_toInt_lt.mp q
    rw [Int32.toInt_toInt64, h] at q'
    have : (-999999999 : Int64).toInt = -999999999 := by decide
    omega
  · have q' := Int64.lt_iff_toInt_lt.mp q
    rw [Int32.toInt_toInt64, h] at q'
    have : (999999999 : Int64).toInt = 999999999 := by decide
    omega
theorem own_and3 (x : Int32) : x &&& 3 = 0 ∨ x &&& 3 = 1 ∨ x &&& 3 = 2 ∨ x &&& 3 = 3 := by
  have h : (x &&& 3).toBitVec = x.toBitVec &&& 3#32 := rfl
  have hb : (x.toBitVec &&& 3#32).toNat < 4 := by
    rw [BitVec.toNat_and]
    exact Nat.lt_of_le_of_lt Nat.and_le_right (by decide)
  generalize x.toBitVec &&& 3#32 = b at h hb
  have key : ∀ n : Nat, n < 4 → (b.toNat = n → b = BitVec.ofNat 32 n) := fun n hn e => by
    apply BitVec.eq_of_toNat_eq; rw [e]; simp; omega
  have hx : ∀ c : Int32, b = c.toBitVec → x &&& 3 = c := fun c e => Int32.toBitVec_inj.mp (h.trans e)
  have hc : b.toNat = 0 ∨ b.toNat = 1 ∨ b.toNat = 2 ∨ b.toNat = 3 := by omega
  rcases hc with e | e | e | e
  · exact Or.inl (hx 0 (key 0 (by decide) e))
  · exact Or.inr (Or.inl (hx 1 (key 1 (by decide) e)))
  · exact Or.inr (Or.inr (Or.inl (hx 2 (key 2 (by decide) e))))
  · exact Or.inr (Or.inr (Or.inr (hx 3 (key 3 (by decide) e))))
theorem own_month (x : Int32) : ¬ ((((((x &&& 3) + 1) - 1) * 3) + 1).toInt64 < (1 : Int64)) ∧ ¬ ((12 : Int64) < (((((x &&& 3) + 1) - 1) * 3) + 1).toInt64) := by
  rcases own_and3 x with e | e | e | e <;> rw [e] <;> decide
theorem own_fin (x z : Int32) (hz : z = if (x &&& 3) + 1 = 1 then 1 else if (x &&& 3) + 1 = 2 then 4 else if (x &&& 3) + 1 = 3 then 7 else 10) : ((((x &&& 3) + 1) - 1) * 3) + 1 = z := by
  subst hz
  rcases own_and3 x with e | e | e | e <;> rw [e] <;> decide

theorem d2_0 : decode jdk_30_method_1_code 0 = .ok (.aload_n 0, 1) := by decide +kernel
theorem d2_1 : decode jdk_30_method_1_code 1 = .ok (.invokespecial 1, 3) := by decide +kernel
theorem d2_4 : decode jdk_30_method_1_code 4 = .ok (.return_, 1) := by decide +kernel
theorem pd_0 : parseMethodDescriptor "()V" = some ⟨[], none⟩ := by decide +kernel
theorem pn_java_lang_Record : plainName "java/lang/Record" = true := by first | (simp [plainName, overriddenIn]; done) | decide +kernel
theorem ef_2 (m : MethodId) (a1 : Addr) : entryFrame m #[(.ref a1)] 1 = mkF m 0 #[.val (.ref a1)] [] := by first | (simp [entryFrame, mkF, argsToLocals, Value.category]; done) | rfl
def Q2 (Z : State) (a1 : Addr) (h0 : Heap) (n0 : Nat) (v : Option Value) (h : Heap) (L : List Loc) : Prop := v = none ∧ Fr n0 L ∧ Keep h0 h []
set_option maxRecDepth 65536 in
set_option maxHeartbeats 40000000 in
theorem rm2 (l : Launch) (Z : State) (a0 : Array Value) (hw : ∀ d ∈ tables_1, d.before a0 Z = true) (ws : List Jvm.Cond) (a1 : Addr) (h0 : Heap) (n0 : Nat) (Z0 : n0 ≤ h0.size) :
    MetFree l (⟨"java/lang/Record", "<init>", "()V"⟩ : MethodName) (head1 (Jvm.Cond.code (⟨"java/lang/Record", "<init>", "()V"⟩ : MethodName) jdk_30_method_1_code 1 none :: ws) ({ frames := 1, cells := 0, slots := 0, locals := 12 } : Room)) (fun a U => a = #[(.ref a1)] ∧ Z.Warmed39 U.vm ∧ U.heap = h0) (fun _ _ _ _ _ => True) (fun _ U o U' => ∃ v L, o = .returned v ∧ Q2 Z a1 h0 n0 v U'.heap L ∧ FrameEnd U o U' L ({ frames := 1, cells := 0, slots := 0, locals := 12 } : Room).cells ({ frames := 1, cells := 0, slots := 0, locals := 12 } : Room).slots) := by
  refine MetFree.of_bodySF (plainFor_of_name pn_java_lang_Record) hisR ?_
  intro p e s m args below meth c s₁ Bd hml0 hP hK
  obtain ⟨rfl, hZ, hH0⟩ := hP
  have hx := Bd.exec
  have hby := Bd.bytes
  have hml : c.maxLocals = 1 := hml0
  have hown : s.vm.findClass "java/lang/Record" = some m.cls := findClass_of_methodNamed Bd.named
  have hnm := (name_of_methodNamed Bd.named Bd.method).1
  have X0 : Stand p l e ({ frames := 1, cells := 0, slots := 0, locals := 12 } : Room) s m #[(.ref a1)] below meth c s₁ [] 0 0 := Stand.of_body Bd
  have e0 : s₁.heap = h0 := by rw [← hH0, Bd.state]; rfl
  have N0 := Fr.nil n0
  refine own_cast (ef_2 m a1) ?_
  show own_Go p e below (fun o U' => ∃ v L, o = .returned v ∧ Q2 Z a1 h0 n0 v U'.heap L ∧ FrameEnd s o U' L ({ frames := 1, cells := 0, slots := 0, locals := 12 } : Room).cells ({ frames := 1, cells := 0, slots := 0, locals := 12 } : Room).slots) (s₁.setTop (mkF m 0 #[.val (.ref a1)] []))
  refine own_via (fun _ => XS.aloadN X0.here hx rfl (hb hby d2_0) rfl rfl) ?_
  show own_Go p e below _ (s₁.setTop (mkF m 1 #[.val (.ref a1)] [(.ref a1)]))
  obtain ⟨T_1, X_1, e_1, st_1⟩ := initO X0 hx hZ hown (own_w hw 12 rfl) (own_w hw 13 rfl) (own_w hw 14 rfl) e0 (g := (mkF m 1 #[.val (.ref a1)] [(.ref a1)])) rfl (by rw [hml]; rfl) rfl (hb hby d2_1) (by decide) (W := 0) (by show 2 * 0 + _ ≤ _; exact Nat.le_of_eq rfl) (by decide)
  refine own_via st_1 ?_
  show own_Go p e below _ (T_1.setTop (mkF m 4 #[.val (.ref a1)] []))
  exact own_ret0 X_1 Bd.notSynchronized hx Bd.returns (hb hby d2_4) (by decide) (by decide) (by rw [e_1]; exact ⟨rfl, N0, (Keep.refl h0 [])⟩)
theorem d1_0 : decode prog_19_method_1_code 0 = .ok (.aload_n 0, 1) := by decide +kernel
theorem d1_1 : decode prog_19_method_1_code 1 = .ok (.invokespecial 1, 3) := by decide +kernel
theorem d1_4 : decode prog_19_method_1_code 4 = .ok (.aload_n 0, 1) := by decide +kernel
theorem d1_5 : decode prog_19_method_1_code 5 = .ok (.iload_n 1, 1) := by decide +kernel
theorem d1_6 : decode prog_19_method_1_code 6 = .ok (.putfield 7, 3) := by decide +kernel
theorem d1_9 : decode prog_19_method_1_code 9 = .ok (.aload_n 0, 1) := by decide +kernel
theorem d1_10 : decode prog_19_method_1_code 10 = .ok (.iload_n 2, 1) := by decide +kernel
theorem d1_11 : decode prog_19_method_1_code 11 = .ok (.putfield 13, 3) := by decide +kernel
theorem d1_14 : decode prog_19_method_1_code 14 = .ok (.return_, 1) := by decide +kernel
theorem pn_com_example_voce_voce_Quarter : plainName "com/example/voce/voce/Quarter" = true := by first | (simp [plainName, overriddenIn]; done) | decide +kernel
theorem ef_1 (m : MethodId) (a1 : Addr) (p2 : Int32) (p3 : Int32) : entryFrame m #[(.ref a1), (.int p2), (.int p3)] 3 = mkF m 0 #[.val (.ref a1), .val (.int p2), .val (.int p3)] [] := by first | (simp [entryFrame, mkF, argsToLocals, Value.category]; done) | rfl
def Q1 (Z : State) (a1 : Addr) (p2 : Int32) (p3 : Int32) (h0 : Heap) (n0 : Nat) (v : Option Value) (h : Heap) (L : List Loc) : Prop := v = none ∧ Fr n0 L ∧ Keep h0 h [a1] ∧ (Fld Z h a1 "com/example/voce/voce/Quarter" "year" "I" (.int p2)) ∧ (Fld Z h a1 "com/example/voce/voce/Quarter" "number" "I" (.int p3))
set_option maxRecDepth 65536 in
set_option maxHeartbeats 40000000 in
theorem rm1 (l : Launch) (Z : State) (a0 : Array Value) (hw : ∀ d ∈ tables_1, d.before a0 Z = true) (ws : List Jvm.Cond) (a1 : Addr) (p2 : Int32) (p3 : Int32) (h0 : Heap) (n0 : Nat) (Z0 : n0 ≤ h0.size) (E1 : Exa Z h0 a1 "com/example/voce/voce/Quarter") (F1 : Fld Z h0 a1 "com/example/voce/voce/Quarter" "year" "I" (.int (0 : Int32))) (F2 : Fld Z h0 a1 "com/example/voce/voce/Quarter" "number" "I" (.int (0 : Int32))) (g1 : n0 ≤ a1) :
    MetFree l (⟨"com/example/voce/voce/Quarter", "<init>", "(II)V"⟩ : MethodName) (head1 (Jvm.Cond.code (⟨"com/example/voce/voce/Quarter", "<init>", "(II)V"⟩ : MethodName) prog_19_method_1_code 3 none :: ws) ({ frames := 2, cells := 0, slots := 0, locals := 24 } : Room)) (fun a U => a = #[(.ref a1), (.int p2), (.int p3)] ∧ Z.Warmed39 U.vm ∧ U.heap = h0) (fun _ _ _ _ _ => True) (fun _ U o U' => ∃ v L, o = .returned v ∧ Q1 Z a1 p2 p3 h0 n0 v U'.heap L ∧ FrameEnd U o U' L ({ frames := 2, cells := 0, slots := 0, locals := 24 } : Room).cells ({ frames := 2, cells := 0, slots := 0, locals := 24 } : Room).slots) := by
  refine MetFree.of_bodySF (plainFor_of_name pn_com_example_voce_voce_Quarter) hisR ?_
  intro p e s m args below meth c s₁ Bd hml0 hP hK
  obtain ⟨rfl, hZ, hH0⟩ := hP
  have hx := Bd.exec
  have hby := Bd.bytes
  have hml : c.maxLocals = 3 := hml0
  have hown : s.vm.findClass "com/example/voce/voce/Quarter" = some m.cls := findClass_of_methodNamed Bd.named
  have hnm := (name_of_methodNamed Bd.named Bd.method).1
  have X0 : Stand p l e ({ frames := 2, cells := 0, slots := 0, locals := 24 } : Room) s m #[(.ref a1), (.int p2), (.int p3)] below meth c s₁ [] 0 0 := Stand.of_body Bd
  have e0 : s₁.heap = h0 := by rw [← hH0, Bd.state]; rfl
  have N0 := Fr.nil n0
  refine own_cast (ef_1 m a1 p2 p3) ?_
  show own_Go p e below (fun o U' => ∃ v L, o = .returned v ∧ Q1 Z a1 p2 p3 h0 n0 v U'.heap L ∧ FrameEnd s o U' L ({ frames := 2, cells := 0, slots := 0, locals := 24 } : Room).cells ({ frames := 2, cells := 0, slots := 0, locals := 24 } : Room).slots) (s₁.setTop (mkF m 0 #[.val (.ref a1), .val (.int p2), .val (.int p3)] []))
  refine own_via (fun _ => XS.aloadN X0.here hx rfl (hb hby d1_0) rfl rfl) ?_
  show own_Go p e below _ (s₁.setTop (mkF m 1 #[.val (.ref a1), .val (.int p2), .val (.int p3)] [(.ref a1)]))
  obtain ⟨_, _, ⟨T_1, L_1, k_1, n_1⟩, -, X_1, ⟨Lc_1, hQ_1, l_1, y_1, z_1⟩, st_1⟩ := X0.specialBack hx (y := (⟨"java/lang/Record", "<init>", "()V"⟩ : MethodName)) rfl hown (mvT hZ (own_w hw 7 rfl)) (mvT hZ (own_w hw 8 rfl)) (mvT hZ (own_w hw 11 rfl)) (by decide) (backOf (W := 0) (rm2 l Z a0 hw [] a1 h0 n0 Z0 ) hZ (own_w hw 11 rfl) (own_w hw 10 rfl) (by decide) (by decide)) (g := (mkF m 1 #[.val (.ref a1), .val (.int p2), .val (.int p3)] [(.ref a1)])) rfl (by rw [hml]; rfl) (Steps.refl _) (a := a1) (argsL := []) (rest := []) (lenOf pd_0 rfl) rfl (by show 2 * 0 + _ ≤ _; exact Nat.le_of_eq rfl) (hb hby d1_1) (fun _ _ => ⟨rfl, e0, (by decide : 0 + 0 ≤ _), (by decide : 0 + 0 ≤ _)⟩)
  dsimp only [Pt.U, Pt.locs, Pt.cells, Pt.slots] at X_1 l_1 y_1 z_1 st_1 hQ_1
  subst l_1 y_1 z_1
  obtain ⟨rfl, Nq_1, K_1q⟩ := hQ_1
  have N_1 := Fr.app N0 Nq_1
  refine own_via (fun _ k => st_1.trans k) ?_
  show own_Go p e below _ (T_1.setTop (mkF m 4 #[.val (.ref a1), .val (.int p2), .val (.int p3)] []))
  refine own_via (fun _ => XS.aloadN X_1.here hx rfl (hb hby d1_4) rfl rfl) ?_
  show own_Go p e below _ (T_1.setTop (mkF m 5 #[.val (.ref a1), .val (.int p2), .val (.int p3)] [(.ref a1)]))
  refine own_via (fun _ => XS.iloadN X_1.here hx rfl (hb hby d1_5) rfl) ?_
  show own_Go p e below _ (T_1.setTop (mkF m 6 #[.val (.ref a1), .val (.int p2), .val (.int p3)] [(.int p2), (.ref a1)]))
  have K_2 : Keep h0 T_1.heap [] := Keep.trans (ws := []) (Keep.refl h0 []) K_1q all0
  obtain ⟨T_3, h_3, X_3, e_3, W_3, st_3⟩ := putF X_1 hx hZ hown (host := "") (Or.inl (own_w hw 15 rfl)) Via.refl rfl (F1.keep K_2 nin0) (E1.keep K_2) (Or.inr ⟨(own_w hw 16 rfl), rfl, hnm⟩) (own_w hw 2 rfl) (ty := .int) (by decide) rfl rfl (g := (mkF m 6 #[.val (.ref a1), .val (.int p2), .val (.int p3)] [(.int p2), (.ref a1)])) rfl rfl (hb hby d1_6)
  have F_4 : Fld Z h_3 a1 "com/example/voce/voce/Quarter" "number" "I" (.int (0 : Int32)) := (F2.keep K_2 nin0).other W_3 (Or.inr (slot_ne (Or.inr (own_w hw 18 rfl)) (Or.inr (own_w hw 16 rfl)) (by decide) (t := .int) (t' := .int) (by decide) (by decide)))
  have F_5 : Fld Z h_3 a1 "com/example/voce/voce/Quarter" "year" "I" (.int p2) := (F1.keep K_2 nin0).same W_3
  have N_3 := Fr.snoc X_3 N_1 g1
  refine own_via st_3 ?_
  show own_Go p e below _ (T_3.setTop (mkF m 9 #[.val (.ref a1), .val (.int p2), .val (.int p3)] []))
  refine own_via (fun _ => XS.aloadN X_3.here hx rfl (hb hby d1_9) rfl rfl) ?_
  show own_Go p e below _ (T_3.setTop (mkF m 10 #[.val (.ref a1), .val (.int p2), .val (.int p3)] [(.ref a1)]))
  refine own_via (fun _ => XS.iloadN X_3.here hx rfl (hb hby d1_10) rfl) ?_
  show own_Go p e below _ (T_3.setTop (mkF m 11 #[.val (.ref a1), .val (.int p2), .val (.int p3)] [(.int p3), (.ref a1)]))
  have K_6 : Keep h0 h_3 [a1] := Keep.wr (ws := [a1]) (own_keep_mono K_2 (by simp)) W_3 (Or.inl (List.mem_of_getElem? (i := 0) rfl))
  obtain ⟨T_7, h_7, X_7, e_7, W_7, st_7⟩ := putF X_3 hx hZ hown (host := "") (Or.inl (own_w hw 17 rfl)) Via.refl e_3 F_4 (E1.keep K_6) (Or.inr ⟨(own_w hw 18 rfl), rfl, hnm⟩) (own_w hw 2 rfl) (ty := .int) (by decide) rfl rfl (g := (mkF m 11 #[.val (.ref a1), .val (.int p2), .val (.int p3)] [(.int p3), (.ref a1)])) rfl rfl (hb hby d1_11)
  have F_8 : Fld Z h_7 a1 "com/example/voce/voce/Quarter" "year" "I" (.int p2) := F_5.other W_7 (Or.inr (slot_ne (Or.inr (own_w hw 16 rfl)) (Or.inr (own_w hw 18 rfl)) (by decide) (t := .int) (t' := .int) (by decide) (by decide)))
  have F_9 : Fld Z h_7 a1 "com/example/voce/voce/Quarter" "number" "I" (.int p3) := F_4.same W_7
  have N_7 := Fr.snoc X_7 N_3 g1
  refine own_via st_7 ?_
  show own_Go p e below _ (T_7.setTop (mkF m 14 #[.val (.ref a1), .val (.int p2), .val (.int p3)] []))
  have K_10 : Keep h0 h_7 [a1] := Keep.wr (ws := [a1]) K_6 W_7 (Or.inl (List.mem_of_getElem? (i := 0) rfl))
  exact own_ret0 X_7 Bd.notSynchronized hx Bd.returns (hb hby d1_14) (by decide) (by decide) (by rw [e_7]; exact ⟨rfl, N_7, K_10, F_8, F_9⟩)
theorem d10_0 : decode jdk_2423_method_6_code 0 = .ok (.aload_n 0, 1) := by decide +kernel
theorem d10_1 : decode jdk_2423_method_6_code 1 = .ok (.getfield 33, 3) := by decide +kernel
theorem d10_4 : decode jdk_2423_method_6_code 4 = .ok (.lreturn, 1) := by decide +kernel
theorem pn_java_time_temporal_ValueRange : plainName "java/time/temporal/ValueRange" = true := by first | (simp [plainName, overriddenIn]; done) | decide +kernel
theorem ef_10 (m : MethodId) (a1 : Addr) : entryFrame m #[(.ref a1)] 1 = mkF m 0 #[.val (.ref a1)] [] := by first | (simp [entryFrame, mkF, argsToLocals, Value.category]; done) | rfl
def Q10 (Z : State) (a1 : Addr) (w2 : Int64) (h0 : Heap) (n0 : Nat) (v : Option Value) (h : Heap) (L : List Loc) : Prop := v = some (.long w2) ∧ Fr n0 L ∧ Keep h0 h []
set_option maxRecDepth 65536 in
set_option maxHeartbeats 40000000 in
theorem rm10 (l : Launch) (Z : State) (a0 : Array Value) (hw : ∀ d ∈ tables_1, d.before a0 Z = true) (ws : List Jvm.Cond) (a1 : Addr) (w2 : Int64) (h0 : Heap) (n0 : Nat) (Z0 : n0 ≤ h0.size) (F1 : Fld Z h0 a1 "java/time/temporal/ValueRange" "minSmallest" "J" (.long w2)) :
    MetFree l (⟨"java/time/temporal/ValueRange", "getMinimum", "()J"⟩ : MethodName) (head1 (Jvm.Cond.code (⟨"java/time/temporal/ValueRange", "getMinimum", "()J"⟩ : MethodName) jdk_2423_method_6_code 1 (some .long) :: ws) ({ frames := 0, cells := 0, slots := 0, locals := 0 } : Room)) (fun a U => a = #[(.ref a1)] ∧ Z.Warmed39 U.vm ∧ U.heap = h0) (fun _ _ _ _ _ => True) (fun _ U o U' => ∃ v L, o = .returned v ∧ Q10 Z a1 w2 h0 n0 v U'.heap L ∧ FrameEnd U o U' L ({ frames := 0, cells := 0, slots := 0, locals := 0 } : Room).cells ({ frames := 0, cells := 0, slots := 0, locals := 0 } : Room).slots) := by
  refine MetFree.of_bodySF (plainFor_of_name pn_java_time_temporal_ValueRange) hisR ?_
  intro p e s m args below meth c s₁ Bd hml0 hP hK
  obtain ⟨rfl, hZ, hH0⟩ := hP
  have hx := Bd.exec
  have hby := Bd.bytes
  have hml : c.maxLocals = 1 := hml0
  have hown : s.vm.findClass "java/time/temporal/ValueRange" = some m.cls := findClass_of_methodNamed Bd.named
  have hnm := (name_of_methodNamed Bd.named Bd.method).1
  have X0 : Stand p l e ({ frames := 0, cells := 0, slots := 0, locals := 0 } : Room) s m #[(.ref a1)] below meth c s₁ [] 0 0 := Stand.of_body Bd
  have e0 : s₁.heap = h0 := by rw [← hH0, Bd.state]; rfl
  have N0 := Fr.nil n0
  refine own_cast (ef_10 m a1) ?_
  show own_Go p e below (fun o U' => ∃ v L, o = .returned v ∧ Q10 Z a1 w2 h0 n0 v U'.heap L ∧ FrameEnd s o U' L ({ frames := 0, cells := 0, slots := 0, locals := 0 } : Room).cells ({ frames := 0, cells := 0, slots := 0, locals := 0 } : Room).slots) (s₁.setTop (mkF m 0 #[.val (.ref a1)] []))
  refine own_via (fun _ => XS.aloadN X0.here hx rfl (hb hby d10_0) rfl rfl) ?_
  show own_Go p e below _ (s₁.setTop (mkF m 1 #[.val (.ref a1)] [(.ref a1)]))
  obtain ⟨T_1, X_1, e_1, st_1⟩ := getF X0 hx hZ hown (host := "") (Or.inl (own_w hw 58 rfl)) Via.refl e0 F1 (g := (mkF m 1 #[.val (.ref a1)] [(.ref a1)])) rfl rfl (hb hby d10_1)
  refine own_via st_1 ?_
  show own_Go p e below _ (T_1.setTop (mkF m 4 #[.val (.ref a1)] [(.long w2)]))
  exact own_retv X_1 Bd.notSynchronized hx Bd.returns rfl (Or.inr (Or.inl ⟨rfl, rfl, _, rfl⟩)) (hb hby d10_4) (by decide) (by decide) (by rw [e_1]; exact ⟨rfl, N0, (Keep.refl h0 [])⟩)
theorem d11_0 : decode jdk_2423_method_9_code 0 = .ok (.aload_n 0, 1) := by decide +kernel
theorem d11_1 : decode jdk_2423_method_9_code 1 = .ok (.getfield 43, 3) := by decide +kernel
theorem d11_4 : decode jdk_2423_method_9_code 4 = .ok (.lreturn, 1) := by decide +kernel
theorem ef_11 (m : MethodId) (a1 : Addr) : entryFrame m #[(.ref a1)] 1 = mkF m 0 #[.val (.ref a1)] [] := by first | (simp [entryFrame, mkF, argsToLocals, Value.category]; done) | rfl
def Q11 (Z : State) (a1 : Addr) (w2 : Int64) (h0 : Heap) (n0 : Nat) (v : Option Value) (h : Heap) (L : List Loc) : Prop := v = some (.long w2) ∧ Fr n0 L ∧ Keep h0 h []
set_option maxRecDepth 65536 in
set_option maxHeartbeats 40000000 in
theorem rm11 (l : Launch) (Z : State) (a0 : Array Value) (hw : ∀ d ∈ tables_1, d.before a0 Z = true) (ws : List Jvm.Cond) (a1 : Addr) (w2 : Int64) (h0 : Heap) (n0 : Nat) (Z0 : n0 ≤ h0.size) (F1 : Fld Z h0 a1 "java/time/temporal/ValueRange" "maxLargest" "J" (.long w2)) :
    MetFree l (⟨"java/time/temporal/ValueRange", "getMaximum", "()J"⟩ : MethodName) (head1 (Jvm.Cond.code (⟨"java/time/temporal/ValueRange", "getMaximum", "()J"⟩ : MethodName) jdk_2423_method_9_code 1 (some .long) :: ws) ({ frames := 0, cells := 0, slots := 0, locals := 0 } : Room)) (fun a U => a = #[(.ref a1)] ∧ Z.Warmed39 U.vm ∧ U.heap = h0) (fun _ _ _ _ _ => True) (fun _ U o U' => ∃ v L, o = .returned v ∧ Q11 Z a1 w2 h0 n0 v U'.heap L ∧ FrameEnd U o U' L ({ frames := 0, cells := 0, slots := 0, locals := 0 } : Room).cells ({ frames := 0, cells := 0, slots := 0, locals := 0 } : Room).slots) := by
  refine MetFree.of_bodySF (plainFor_of_name pn_java_time_temporal_ValueRange) hisR ?_
  intro p e s m args below meth c s₁ Bd hml0 hP hK
  obtain ⟨rfl, hZ, hH0⟩ := hP
  have hx := Bd.exec
  have hby := Bd.bytes
  have hml : c.maxLocals = 1 := hml0
  have hown : s.vm.findClass "java/time/temporal/ValueRange" = some m.cls := findClass_of_methodNamed Bd.named
  have hnm := (name_of_methodNamed Bd.named Bd.method).1
  have X0 : Stand p l e ({ frames := 0, cells := 0, slots := 0, locals := 0 } : Room) s m #[(.ref a1)] below meth c s₁ [] 0 0 := Stand.of_body Bd
  have e0 : s₁.heap = h0 := by rw [← hH0, Bd.state]; rfl
  have N0 := Fr.nil n0
  refine own_cast (ef_11 m a1) ?_
  show own_Go p e below (fun o U' => ∃ v L, o = .returned v ∧ Q11 Z a1 w2 h0 n0 v U'.heap L ∧ FrameEnd s o U' L ({ frames := 0, cells := 0, slots := 0, locals := 0 } : Room).cells ({ frames := 0, cells := 0, slots := 0, locals := 0 } : Room).slots) (s₁.setTop (mkF m 0 #[.val (.ref a1)] []))
  refine own_via (fun _ => XS.aloadN X0.here hx rfl (hb hby d11_0) rfl rfl) ?_
  show own_Go p e below _ (s₁.setTop (mkF m 1 #[.val (.ref a1)] [(.ref a1)]))
  obtain ⟨T_1, X_1, e_1, st_1⟩ := getF X0 hx hZ hown (host := "") (Or.inl (own_w hw 65 rfl)) Via.refl e0 F1 (g := (mkF m 1 #[.val (.ref a1)] [(.ref a1)])) rfl rfl (hb hby d11_1)
  refine own_via st_1 ?_
  show own_Go p e below _ (T_1.setTop (mkF m 4 #[.val (.ref a1)] [(.long w2)]))
  exact own_retv X_1 Bd.notSynchronized hx Bd.returns rfl (Or.inr (Or.inl ⟨rfl, rfl, _, rfl⟩)) (hb hby d11_4) (by decide) (by decide) (by rw [e_1]; exact ⟨rfl, N0, (Keep.refl h0 [])⟩)
theorem d9_0 : decode jdk_2423_method_11_code 0 = .ok (.lload_n 1, 1) := by decide +kernel
theorem d9_1 : decode jdk_2423_method_11_code 1 = .ok (.aload_n 0, 1) := by decide +kernel
theorem d9_2 : decode jdk_2423_method_11_code 2 = .ok (.invokevirtual 46, 3) := by decide +kernel
theorem d9_5 : decode jdk_2423_method_11_code 5 = .ok (.lcmp, 1) := by decide +kernel
theorem d9_6 : decode jdk_2423_method_11_code 6 = .ok (.ifCond .lt 16, 3) := by decide +kernel
theorem d9_9 : decode jdk_2423_method_11_code 9 = .ok (.lload_n 1, 1) := by decide +kernel
theorem d9_10 : decode jdk_2423_method_11_code 10 = .ok (.aload_n 0, 1) := by decide +kernel
theorem d9_11 : decode jdk_2423_method_11_code 11 = .ok (.invokevirtual 54, 3) := by decide +kernel
theorem d9_14 : decode jdk_2423_method_11_code 14 = .ok (.lcmp, 1) := by decide +kernel
theorem d9_15 : decode jdk_2423_method_11_code 15 = .ok (.ifCond .gt 7, 3) := by decide +kernel
theorem d9_18 : decode jdk_2423_method_11_code 18 = .ok (.iconst 1, 1) := by decide +kernel
theorem d9_19 : decode jdk_2423_method_11_code 19 = .ok (.goto 4, 3) := by decide +kernel
theorem d9_22 : decode jdk_2423_method_11_code 22 = .ok (.iconst 0, 1) := by decide +kernel
theorem d9_23 : decode jdk_2423_method_11_code 23 = .ok (.ireturn, 1) := by decide +kernel
theorem pd_1 : parseMethodDescriptor "()J" = some ⟨[], some .long⟩ := by decide +kernel
theorem ef_9 (m : MethodId) (a1 : Addr) (q2 : Int64) : entryFrame m #[(.ref a1), (.long q2)] 3 = mkF m 0 #[.val (.ref a1), .val (.long q2), .second] [] := by first | (simp [entryFrame, mkF, argsToLocals, Value.category]; done) | rfl
def Q9 (Z : State) (a1 : Addr) (q2 : Int64) (lo : Int64) (hi : Int64) (h0 : Heap) (n0 : Nat) (v : Option Value) (h : Heap) (L : List Loc) : Prop := v = some (.int (1 : Int32)) ∧ Fr n0 L ∧ Keep h0 h []
set_option maxRecDepth 65536 in
set_option maxHeartbeats 40000000 in
theorem rm9 (l : Launch) (Z : State) (a0 : Array Value) (hw : ∀ d ∈ tables_1, d.before a0 Z = true) (ws : List Jvm.Cond) (a1 : Addr) (q2 : Int64) (lo : Int64) (hi : Int64) (h0 : Heap) (n0 : Nat) (Z0 : n0 ≤ h0.size) (E1 : Exa Z h0 a1 "java/time/temporal/ValueRange") (F1 : Fld Z h0 a1 "java/time/temporal/ValueRange" "minSmallest" "J" (.long lo)) (F2 : Fld Z h0 a1 "java/time/temporal/ValueRange" "maxLargest" "J" (.long hi)) (hlo : ¬ (q2 < lo)) (hhi : ¬ (hi < q2)) :
    MetFree l (⟨"java/time/temporal/ValueRange", "isValidValue", "(J)Z"⟩ : MethodName) (head1 (Jvm.Cond.code (⟨"java/time/temporal/ValueRange", "isValidValue", "(J)Z"⟩ : MethodName) jdk_2423_method_11_code 3 (some .boolean) :: ws) ({ frames := 1, cells := 0, slots := 0, locals := 14 } : Room)) (fun a U => a = #[(.ref a1), (.long q2)] ∧ Z.Warmed39 U.vm ∧ U.heap = h0) (fun _ _ _ _ _ => True) (fun _ U o U' => ∃ v L, o = .returned v ∧ Q9 Z a1 q2 lo hi h0 n0 v U'.heap L ∧ FrameEnd U o U' L ({ frames := 1, cells := 0, slots := 0, locals := 14 } : Room).cells ({ frames := 1, cells := 0, slots := 0, locals := 14 } : Room).slots) := by
  refine MetFree.of_bodySF (plainFor_of_name pn_java_time_temporal_ValueRange) hisR ?_
  intro p e s m args below meth c s₁ Bd hml0 hP hK
  obtain ⟨rfl, hZ, hH0⟩ := hP
  have hx := Bd.exec
  have hby := Bd.bytes
  have hml : c.maxLocals = 3 := hml0
  have hown : s.vm.findClass "java/time/temporal/ValueRange" = some m.cls := findClass_of_methodNamed Bd.named
  have hnm := (name_of_methodNamed Bd.named Bd.method).1
  have X0 : Stand p l e ({ frames := 1, cells := 0, slots := 0, locals := 14 } : Room) s m #[(.ref a1), (.long q2)] below meth c s₁ [] 0 0 := Stand.of_body Bd
  have e0 : s₁.heap = h0 := by rw [← hH0, Bd.state]; rfl
  have N0 := Fr.nil n0
  refine own_cast (ef_9 m a1 q2) ?_
  show own_Go p e below (fun o U' => ∃ v L, o = .returned v ∧ Q9 Z a1 q2 lo hi h0 n0 v U'.heap L ∧ FrameEnd s o U' L ({ frames := 1, cells := 0, slots := 0, locals := 14 } : Room).cells ({ frames := 1, cells := 0, slots := 0, locals := 14 } : Room).slots) (s₁.setTop (mkF m 0 #[.val (.ref a1), .val (.long q2), .second] []))
  refine own_via (fun _ => XS.lloadN X0.here hx rfl (hb hby d9_0) rfl) ?_
  show own_Go p e below _ (s₁.setTop (mkF m 1 #[.val (.ref a1), .val (.long q2), .second] [(.long q2)]))
  refine own_via (fun _ => XS.aloadN X0.here hx rfl (hb hby d9_1) rfl rfl) ?_
  show own_Go p e below _ (s₁.setTop (mkF m 2 #[.val (.ref a1), .val (.long q2), .second] [(.ref a1), (.long q2)]))
  obtain ⟨cq_1, kq_1, q_1a, q_1b, q_1c⟩ := isOf hZ e0 E1
  obtain ⟨_, _, ⟨T_1, L_1, k_1, n_1⟩, -, X_1, ⟨Lc_1, hQ_1, l_1, y_1, z_1⟩, st_1⟩ := X0.virtualBack hx (y := (⟨"java/time/temporal/ValueRange", "getMinimum", "()J"⟩ : MethodName)) (z := (⟨"java/time/temporal/ValueRange", "getMinimum", "()J"⟩ : MethodName)) hown (mvT hZ (own_w hw 53 rfl)) (mvT hZ (own_w hw 54 rfl)) (notFace_of_selects (args := #[]) (mvT hZ (own_w hw 56 rfl))) (mvT hZ (own_w hw 56 rfl)) (mvT hZ (own_w hw 55 rfl)) (by decide) (backOf (W := 2) (rm10 l Z a0 hw [] a1 lo h0 n0 Z0 F1) hZ (own_w hw 57 rfl) (own_w hw 46 rfl) (by decide) (by decide)) q_1a q_1c (g := (mkF m 2 #[.val (.ref a1), .val (.long q2), .second] [(.ref a1), (.long q2)])) rfl (by rw [hml]; rfl) (Steps.refl _) (argsL := []) (rest := [(.long q2)]) (lenOf pd_1 rfl) rfl (by show 2 * 0 + _ ≤ _; exact Nat.le_of_eq rfl) (hb hby d9_2) (fun _ _ => ⟨rfl, e0, (by decide : 0 + 0 ≤ _), (by decide : 0 + 0 ≤ _)⟩)
  dsimp only [Pt.U, Pt.locs, Pt.cells, Pt.slots] at X_1 l_1 y_1 z_1 st_1 hQ_1
  subst l_1 y_1 z_1
  obtain ⟨rfl, Nq_1, K_1q⟩ := hQ_1
  have N_1 := Fr.app N0 Nq_1
  refine own_via (fun _ k => st_1.trans k) ?_
  show own_Go p e below _ (T_1.setTop (mkF m 5 #[.val (.ref a1), .val (.long q2), .second] [(.long lo), (.long q2)]))
  refine own_via (fun _ => XS.lcmp X_1.here hx rfl (hb hby d9_5) rfl) ?_
  show own_Go p e below _ (T_1.setTop (mkF m 6 #[.val (.ref a1), .val (.long q2), .second] [(.int (lcmpW q2 lo))]))
  refine own_via (fun _ => XS.ifNo X_1.here hx rfl (hb hby d9_6) rfl ((if0 _ _).trans (flt ((fun z => hlo ((lw_lt _ _).mp z)) : ¬ ((lcmpW q2 lo) < (0 : Int32)))).1)) ?_
  show own_Go p e below _ (T_1.setTop (mkF m 9 #[.val (.ref a1), .val (.long q2), .second] []))
  refine own_via (fun _ => XS.lloadN X_1.here hx rfl (hb hby d9_9) rfl) ?_
  show own_Go p e below _ (T_1.setTop (mkF m 10 #[.val (.ref a1), .val (.long q2), .second] [(.long q2)]))
  refine own_via (fun _ => XS.aloadN X_1.here hx rfl (hb hby d9_10) rfl rfl) ?_
  show own_Go p e below _ (T_1.setTop (mkF m 11 #[.val (.ref a1), .val (.long q2), .second] [(.ref a1), (.long q2)]))
  have K_2 : Keep h0 T_1.heap [] := Keep.trans (ws := []) (Keep.refl h0 []) K_1q all0
  obtain ⟨cq_3, kq_3, q_3a, q_3b, q_3c⟩ := isOf hZ rfl (E1.keep K_2)
  obtain ⟨_, _, ⟨T_3, L_3, k_3, n_3⟩, -, X_3, ⟨Lc_3, hQ_3, l_3, y_3, z_3⟩, st_3⟩ := X_1.virtualBack hx (y := (⟨"java/time/temporal/ValueRange", "getMaximum", "()J"⟩ : MethodName)) (z := (⟨"java/time/temporal/ValueRange", "getMaximum", "()J"⟩ : MethodName)) hown (mvT hZ (own_w hw 60 rfl)) (mvT hZ (own_w hw 61 rfl)) (notFace_of_selects (args := #[]) (mvT hZ (own_w hw 63 rfl))) (mvT hZ (own_w hw 63 rfl)) (mvT hZ (own_w hw 62 rfl)) (by decide) (backOf (W := 2) (rm11 l Z a0 hw [] a1 hi T_1.heap n0 (Nat.le_trans Z0 K_2.1) (F2.keep K_2 nin0)) hZ (own_w hw 64 rfl) (own_w hw 46 rfl) (by decide) (by decide)) q_3a q_3c (g := (mkF m 11 #[.val (.ref a1), .val (.long q2), .second] [(.ref a1), (.long q2)])) rfl (by rw [hml]; rfl) (Steps.refl _) (argsL := []) (rest := [(.long q2)]) (lenOf pd_1 rfl) rfl (by show 2 * 0 + _ ≤ _; exact Nat.le_of_eq rfl) (hb hby d9_11) (fun _ _ => ⟨rfl, rfl, (by decide : 0 + 0 ≤ _), (by decide : 0 + 0 ≤ _)⟩)
  dsimp only [Pt.U, Pt.locs, Pt.cells, Pt.slots] at X_3 l_3 y_3 z_3 st_3 hQ_3
  subst l_3 y_3 z_3
  obtain ⟨rfl, Nq_3, K_3q⟩ := hQ_3
  have N_3 := Fr.app N_1 Nq_3
  refine own_via (fun _ k => st_3.trans k) ?_
  show own_Go p e below _ (T_3.setTop (mkF m 14 #[.val (.ref a1), .val (.long q2), .second] [(.long hi), (.long q2)]))
  refine own_via (fun _ => XS.lcmp X_3.here hx rfl (hb hby d9_14) rfl) ?_
  show own_Go p e below _ (T_3.setTop (mkF m 15 #[.val (.ref a1), .val (.long q2), .second] [(.int (lcmpW q2 hi))]))
  refine own_via (fun _ => XS.ifNo X_3.here hx rfl (hb hby d9_15) rfl ((if0 _ _).trans (flt ((fun z => hhi ((lw_gt _ _).mp z)) : ¬ ((0 : Int32) < (lcmpW q2 hi)))).2.2.1)) ?_
  show own_Go p e below _ (T_3.setTop (mkF m 18 #[.val (.ref a1), .val (.long q2), .second] []))
  refine own_via (fun _ => XS.iconst X_3.here hx rfl (hb hby d9_18)) ?_
  show own_Go p e below _ (T_3.setTop (mkF m 19 #[.val (.ref a1), .val (.long q2), .second] [(.int (1 : Int32))]))
  refine own_via (fun _ => XS.goto X_3.here hx rfl (pc0 := 19) (pc' := 23) rfl (hb hby d9_19) (by decide) (by decide)) ?_
  show own_Go p e below _ (T_3.setTop (mkF m 23 #[.val (.ref a1), .val (.long q2), .second] [(.int (1 : Int32))]))
  have K_4 : Keep h0 T_3.heap [] := Keep.trans (ws := []) K_2 K_3q all0
  exact own_retv X_3 Bd.notSynchronized hx Bd.returns rfl (Or.inl ⟨rfl, (by simp), _, rfl⟩) (hb hby d9_23) (by decide) (by decide) ⟨rfl, N_3, K_4⟩
theorem d8_0 : decode jdk_2423_method_13_code 0 = .ok (.aload_n 0, 1) := by decide +kernel
theorem d8_1 : decode jdk_2423_method_13_code 1 = .ok (.lload_n 1, 1) := by decide +kernel
theorem d8_2 : decode jdk_2423_method_13_code 2 = .ok (.invokevirtual 63, 3) := by decide +kernel
theorem d8_5 : decode jdk_2423_method_13_code 5 = .ok (.ifCond .ne 17, 3) := by decide +kernel
theorem d8_8 : decode jdk_2423_method_13_code 8 = .ok (.new 67, 3) := by decide +kernel
theorem d8_11 : decode jdk_2423_method_13_code 11 = .ok (.dup, 1) := by decide +kernel
theorem d8_12 : decode jdk_2423_method_13_code 12 = .ok (.aload_n 0, 1) := by decide +kernel
theorem d8_13 : decode jdk_2423_method_13_code 13 = .ok (.aload_n 3, 1) := by decide +kernel
theorem d8_14 : decode jdk_2423_method_13_code 14 = .ok (.lload_n 1, 1) := by decide +kernel
theorem d8_15 : decode jdk_2423_method_13_code 15 = .ok (.invokevirtual 69, 3) := by decide +kernel
theorem d8_18 : decode jdk_2423_method_13_code 18 = .ok (.invokespecial 73, 3) := by decide +kernel
theorem d8_21 : decode jdk_2423_method_13_code 21 = .ok (.athrow, 1) := by decide +kernel
theorem d8_22 : decode jdk_2423_method_13_code 22 = .ok (.lload_n 1, 1) := by decide +kernel
theorem d8_23 : decode jdk_2423_method_13_code 23 = .ok (.lreturn, 1) := by decide +kernel
theorem pd_2 : parseMethodDescriptor "(J)Z" = some ⟨[.long], some .boolean⟩ := by decide +kernel
theorem ef_8 (m : MethodId) (a1 : Addr) (q2 : Int64) (a3 : Addr) : entryFrame m #[(.ref a1), (.long q2), (.ref a3)] 4 = mkF m 0 #[.val (.ref a1), .val (.long q2), .second, .val (.ref a3)] [] := by first | (simp [entryFrame, mkF, argsToLocals, Value.category]; done) | rfl
def Q8 (Z : State) (a1 : Addr) (q2 : Int64) (a3 : Addr) (lo : Int64) (hi : Int64) (h0 : Heap) (n0 : Nat) (v : Option Value) (h : Heap) (L : List Loc) : Prop := v = some (.long q2) ∧ Fr n0 L ∧ Keep h0 h []
set_option maxRecDepth 65536 in
set_option maxHeartbeats 40000000 in
theorem rm8 (l : Launch) (Z : State) (a0 : Array Value) (hw : ∀ d ∈ tables_1, d.before a0 Z = true) (ws : List Jvm.Cond) (a1 : Addr) (q2 : Int64) (a3 : Addr) (lo : Int64) (hi : Int64) (h0 : Heap) (n0 : Nat) (Z0 : n0 ≤ h0.size) (E1 : Exa Z h0 a1 "java/time/temporal/ValueRange") (F1 : Fld Z h0 a1 "java/time/temporal/ValueRange" "minSmallest" "J" (.long lo)) (F2 : Fld Z h0 a1 "java/time/temporal/ValueRange" "maxLargest" "J" (.long hi)) (hlo : ¬ (q2 < lo)) (hhi : ¬ (hi < q2)) :
    MetFree l (⟨"java/time/temporal/ValueRange", "checkValidValue", "(JLjava/time/temporal/TemporalField;)J"⟩ : MethodName) (head1 (Jvm.Cond.code (⟨"java/time/temporal/ValueRange", "checkValidValue", "(JLjava/time/temporal/TemporalField;)J"⟩ : MethodName) jdk_2423_method_13_code 4 (some .long) :: ws) ({ frames := 2, cells := 0, slots := 0, locals := 28 } : Room)) (fun a U => a = #[(.ref a1), (.long q2), (.ref a3)] ∧ Z.Warmed39 U.vm ∧ U.heap = h0) (fun _ _ _ _ _ => True) (fun _ U o U' => ∃ v L, o = .returned v ∧ Q8 Z a1 q2 a3 lo hi h0 n0 v U'.heap L ∧ FrameEnd U o U' L ({ frames := 2, cells := 0, slots := 0, locals := 28 } : Room).cells ({ frames := 2, cells := 0, slots := 0, locals := 28 } : Room).slots) := by
  refine MetFree.of_bodySF (plainFor_of_name pn_java_time_temporal_ValueRange) hisR ?_
  intro p e s m args below meth c s₁ Bd hml0 hP hK
  obtain ⟨rfl, hZ, hH0⟩ := hP
  have hx := Bd.exec
  have hby := Bd.bytes
  have hml : c.maxLocals = 4 := hml0
  have hown : s.vm.findClass "java/time/temporal/ValueRange" = some m.cls := findClass_of_methodNamed Bd.named
  have hnm := (name_of_methodNamed Bd.named Bd.method).1
  have X0 : Stand p l e ({ frames := 2, cells := 0, slots := 0, locals := 28 } : Room) s m #[(.ref a1), (.long q2), (.ref a3)] below meth c s₁ [] 0 0 := Stand.of_body Bd
  have e0 : s₁.heap = h0 := by rw [← hH0, Bd.state]; rfl
  have N0 := Fr.nil n0
  refine own_cast (ef_8 m a1 q2 a3) ?_
  show own_Go p e below (fun o U' => ∃ v L, o = .returned v ∧ Q8 Z a1 q2 a3 lo hi h0 n0 v U'.heap L ∧ FrameEnd s o U' L ({ frames := 2, cells := 0, slots := 0, locals := 28 } : Room).cells ({ frames := 2, cells := 0, slots := 0, locals := 28 } : Room).slots) (s₁.setTop (mkF m 0 #[.val (.ref a1), .val (.long q2), .second, .val (.ref a3)] []))
  refine own_via (fun _ => XS.aloadN X0.here hx rfl (hb hby d8_0) rfl rfl) ?_
  show own_Go p e below _ (s₁.setTop (mkF m 1 #[.val (.ref a1), .val (.long q2), .second, .val (.ref a3)] [(.ref a1)]))
  refine own_via (fun _ => XS.lloadN X0.here hx rfl (hb hby d8_1) rfl) ?_
  show own_Go p e below _ (s₁.setTop (mkF m 2 #[.val (.ref a1), .val (.long q2), .second, .val (.ref a3)] [(.long q2), (.ref a1)]))
  obtain ⟨cq_1, kq_1, q_1a, q_1b, q_1c⟩ := isOf hZ e0 E1
  obtain ⟨_, _, ⟨T_1, L_1, k_1, n_1⟩, -, X_1, ⟨Lc_1, hQ_1, l_1, y_1, z_1⟩, st_1⟩ := X0.virtualBack hx (y := (⟨"java/time/temporal/ValueRange", "isValidValue", "(J)Z"⟩ : MethodName)) (z := (⟨"java/time/temporal/ValueRange", "isValidValue", "(J)Z"⟩ : MethodName)) hown (mvT hZ (own_w hw 48 rfl)) (mvT hZ (own_w hw 49 rfl)) (notFace_of_selects (args := #[]) (mvT hZ (own_w hw 51 rfl))) (mvT hZ (own_w hw 51 rfl)) (mvT hZ (own_w hw 50 rfl)) (by decide) (backOf (W := 0) (rm9 l Z a0 hw [] a1 q2 lo hi h0 n0 Z0 E1 F1 F2 hlo hhi) hZ (own_w hw 52 rfl) (own_w hw 46 rfl) (by decide) (by decide)) q_1a q_1c (g := (mkF m 2 #[.val (.ref a1), .val (.long q2), .second, .val (.ref a3)] [(.long q2), (.ref a1)])) rfl (by rw [hml]; rfl) (Steps.refl _) (argsL := [(.long q2)]) (rest := []) (lenOf pd_2 rfl) rfl (by show 2 * 0 + _ ≤ _; exact Nat.le_of_eq rfl) (hb hby d8_2) (fun _ _ => ⟨rfl, e0, (by decide : 0 + 0 ≤ _), (by decide : 0 + 0 ≤ _)⟩)
  dsimp only [Pt.U, Pt.locs, Pt.cells, Pt.slots] at X_1 l_1 y_1 z_1 st_1 hQ_1
  subst l_1 y_1 z_1
  obtain ⟨rfl, Nq_1, K_1q⟩ := hQ_1
  have N_1 := Fr.app N0 Nq_1
  refine own_via (fun _ k => st_1.trans k) ?_
  show own_Go p e below _ (T_1.setTop (mkF m 5 #[.val (.ref a1), .val (.long q2), .second, .val (.ref a3)] [(.int (1 : Int32))]))
  refine own_via (fun _ => XS.ifYes X_1.here hx rfl (pc0 := 5) (pc' := 22) rfl (hb hby d8_5) rfl ((if0 _ _).trans (feq ((by decide) : ¬ ((1 : Int32) = (0 : Int32)))).2) (by decide) (by decide)) ?_
  show own_Go p e below _ (T_1.setTop (mkF m 22 #[.val (.ref a1), .val (.long q2), .second, .val (.ref a3)] []))
  refine own_via (fun _ => XS.lloadN X_1.here hx rfl (hb hby d8_22) rfl) ?_
  show own_Go p e below _ (T_1.setTop (mkF m 23 #[.val (.ref a1), .val (.long q2), .second, .val (.ref a3)] [(.long q2)]))
  have K_2 : Keep h0 T_1.heap [] := Keep.trans (ws := []) (Keep.refl h0 []) K_1q all0
  exact own_retv X_1 Bd.notSynchronized hx Bd.returns rfl (Or.inr (Or.inl ⟨rfl, rfl, _, rfl⟩)) (hb hby d8_23) (by decide) (by decide) ⟨rfl, N_1, K_2⟩
theorem d7_0 : decode jdk_2395_method_8_code 0 = .ok (.aload_n 0, 1) := by decide +kernel
theorem d7_1 : decode jdk_2395_method_8_code 1 = .ok (.getfield 124, 3) := by decide +kernel
theorem d7_4 : decode jdk_2395_method_8_code 4 = .ok (.areturn, 1) := by decide +kernel
theorem pn_java_time_temporal_ChronoField : plainName "java/time/temporal/ChronoField" = true := by first | (simp [plainName, overriddenIn]; done) | decide +kernel
theorem ef_7 (m : MethodId) (a1 : Addr) : entryFrame m #[(.ref a1)] 1 = mkF m 0 #[.val (.ref a1)] [] := by first | (simp [entryFrame, mkF, argsToLocals, Value.category]; done) | rfl
def Q7 (Z : State) (a1 : Addr) (r : Addr) (h0 : Heap) (n0 : Nat) (v : Option Value) (h : Heap) (L : List Loc) : Prop := v = some (.ref r) ∧ Fr n0 L ∧ Keep h0 h []
set_option maxRecDepth 65536 in
set_option maxHeartbeats 40000000 in
theorem rm7 (l : Launch) (Z : State) (a0 : Array Value) (hw : ∀ d ∈ tables_1, d.before a0 Z = true) (ws : List Jvm.Cond) (a1 : Addr) (r : Addr) (h0 : Heap) (n0 : Nat) (Z0 : n0 ≤ h0.size) (F1 : Fld Z h0 a1 "java/time/temporal/ChronoField" "range" "Ljava/time/temporal/ValueRange;" (.ref r)) :
    MetFree l (⟨"java/time/temporal/ChronoField", "range", "()Ljava/time/temporal/ValueRange;"⟩ : MethodName) (head1 (Jvm.Cond.code (⟨"java/time/temporal/ChronoField", "range", "()Ljava/time/temporal/ValueRange;"⟩ : MethodName) jdk_2395_method_8_code 1 (some (.object "java/time/temporal/ValueRange")) :: ws) ({ frames := 0, cells := 0, slots := 0, locals := 0 } : Room)) (fun a U => a = #[(.ref a1)] ∧ Z.Warmed39 U.vm ∧ U.heap = h0) (fun _ _ _ _ _ => True) (fun _ U o U' => ∃ v L, o = .returned v ∧ Q7 Z a1 r h0 n0 v U'.heap L ∧ FrameEnd U o U' L ({ frames := 0, cells := 0, slots := 0, locals := 0 } : Room).cells ({ frames := 0, cells := 0, slots := 0, locals := 0 } : Room).slots) := by
  refine MetFree.of_bodySF (plainFor_of_name pn_java_time_temporal_ChronoField) hisR ?_
  intro p e s m args below meth c s₁ Bd hml0 hP hK
  obtain ⟨rfl, hZ, hH0⟩ := hP
  have hx := Bd.exec
  have hby := Bd.bytes
  have hml : c.maxLocals = 1 := hml0
  have hown : s.vm.findClass "java/time/temporal/ChronoField" = some m.cls := findClass_of_methodNamed Bd.named
  have hnm := (name_of_methodNamed Bd.named Bd.method).1
  have X0 : Stand p l e ({ frames := 0, cells := 0, slots := 0, locals := 0 } : Room) s m #[(.ref a1)] below meth c s₁ [] 0 0 := Stand.of_body Bd
  have e0 : s₁.heap = h0 := by rw [← hH0, Bd.state]; rfl
  have N0 := Fr.nil n0
  refine own_cast (ef_7 m a1) ?_
  show own_Go p e below (fun o U' => ∃ v L, o = .returned v ∧ Q7 Z a1 r h0 n0 v U'.heap L ∧ FrameEnd s o U' L ({ frames := 0, cells := 0, slots := 0, locals := 0 } : Room).cells ({ frames := 0, cells := 0, slots := 0, locals := 0 } : Room).slots) (s₁.setTop (mkF m 0 #[.val (.ref a1)] []))
  refine own_via (fun _ => XS.aloadN X0.here hx rfl (hb hby d7_0) rfl rfl) ?_
  show own_Go p e below _ (s₁.setTop (mkF m 1 #[.val (.ref a1)] [(.ref a1)]))
  obtain ⟨T_1, X_1, e_1, st_1⟩ := getF X0 hx hZ hown (host := "") (Or.inl (own_w hw 40 rfl)) Via.refl e0 F1 (g := (mkF m 1 #[.val (.ref a1)] [(.ref a1)])) rfl rfl (hb hby d7_1)
  refine own_via st_1 ?_
  show own_Go p e below _ (T_1.setTop (mkF m 4 #[.val (.ref a1)] [(.ref r)]))
  exact own_retv X_1 Bd.notSynchronized hx Bd.returns rfl (Or.inr (Or.inr (Or.inr (Or.inr ⟨rfl, rfl, rfl⟩)))) (hb hby d7_4) (by decide) (by decide) (by rw [e_1]; exact ⟨rfl, N0, (Keep.refl h0 [])⟩)
theorem d6_0 : decode jdk_2395_method_11_code 0 = .ok (.aload_n 0, 1) := by decide +kernel
theorem d6_1 : decode jdk_2395_method_11_code 1 = .ok (.invokevirtual 190, 3) := by decide +kernel
theorem d6_4 : decode jdk_2395_method_11_code 4 = .ok (.lload_n 1, 1) := by decide +kernel
theorem d6_5 : decode jdk_2395_method_11_code 5 = .ok (.aload_n 0, 1) := by decide +kernel
theorem d6_6 : decode jdk_2395_method_11_code 6 = .ok (.invokevirtual 193, 3) := by decide +kernel
theorem d6_9 : decode jdk_2395_method_11_code 9 = .ok (.lreturn, 1) := by decide +kernel
theorem pd_3 : parseMethodDescriptor "()Ljava/time/temporal/ValueRange;" = some ⟨[], some (.object "java/time/temporal/ValueRange")⟩ := by decide +kernel
theorem pd_4 : parseMethodDescriptor "(JLjava/time/temporal/TemporalField;)J" = some ⟨[.long, (.object "java/time/temporal/TemporalField")], some .long⟩ := by decide +kernel
theorem ef_6 (m : MethodId) (a1 : Addr) (q2 : Int64) : entryFrame m #[(.ref a1), (.long q2)] 3 = mkF m 0 #[.val (.ref a1), .val (.long q2), .second] [] := by first | (simp [entryFrame, mkF, argsToLocals, Value.category]; done) | rfl
def Q6 (Z : State) (a1 : Addr) (q2 : Int64) (r : Addr) (lo : Int64) (hi : Int64) (h0 : Heap) (n0 : Nat) (v : Option Value) (h : Heap) (L : List Loc) : Prop := v = some (.long q2) ∧ Fr n0 L ∧ Keep h0 h []
set_option maxRecDepth 65536 in
set_option maxHeartbeats 40000000 in
theorem rm6 (l : Launch) (Z : State) (a0 : Array Value) (hw : ∀ d ∈ tables_1, d.before a0 Z = true) (ws : List Jvm.Cond) (a1 : Addr) (q2 : Int64) (r : Addr) (lo : Int64) (hi : Int64) (h0 : Heap) (n0 : Nat) (Z0 : n0 ≤ h0.size) (E1 : Exa Z h0 a1 "java/time/temporal/ChronoField") (F1 : Fld Z h0 a1 "java/time/temporal/ChronoField" "range" "Ljava/time/temporal/ValueRange;" (.ref r)) (E2 : Exa Z h0 r "java/time/temporal/ValueRange") (F2 : Fld Z h0 r "java/time/temporal/ValueRange" "minSmallest" "J" (.long lo)) (F3 : Fld Z h0 r "java/time/temporal/ValueRange" "maxLargest" "J" (.long hi)) (hlo : ¬ (q2 < lo)) (hhi : ¬ (hi < q2)) :
    MetFree l (⟨"java/time/temporal/ChronoField", "checkValidValue", "(J)J"⟩ : MethodName) (head1 (Jvm.Cond.code (⟨"java/time/temporal/ChronoField", "checkValidValue", "(J)J"⟩ : MethodName) jdk_2395_method_11_code 3 (some .long) :: ws) ({ frames := 3, cells := 0, slots := 0, locals := 43 } : Room)) (fun a U => a = #[(.ref a1), (.long q2)] ∧ Z.Warmed39 U.vm ∧ U.heap = h0) (fun _ _ _ _ _ => True) (fun _ U o U' => ∃ v L, o = .returned v ∧ Q6 Z a1 q2 r lo hi h0 n0 v U'.heap L ∧ FrameEnd U o U' L ({ frames := 3, cells := 0, slots := 0, locals := 43 } : Room).cells ({ frames := 3, cells := 0, slots := 0, locals := 43 } : Room).slots) := by
  refine MetFree.of_bodySF (plainFor_of_name pn_java_time_temporal_ChronoField) hisR ?_
  intro p e s m args below meth c s₁ Bd hml0 hP hK
  obtain ⟨rfl, hZ, hH0⟩ := hP
  have hx := Bd.exec
  have hby := Bd.bytes
  have hml : c.maxLocals = 3 := hml0
  have hown : s.vm.findClass "java/time/temporal/ChronoField" = some m.cls := findClass_of_methodNamed Bd.named
  have hnm := (name_of_methodNamed Bd.named Bd.method).1
  have X0 : Stand p l e ({ frames := 3, cells := 0, slots := 0, locals := 43 } : Room) s m #[(.ref a1), (.long q2)] below meth c s₁ [] 0 0 := Stand.of_body Bd
  have e0 : s₁.heap = h0 := by rw [← hH0, Bd.state]; rfl
  have N0 := Fr.nil n0
  refine own_cast (ef_6 m a1 q2) ?_
  show own_Go p e below (fun o U' => ∃ v L, o = .returned v ∧ Q6 Z a1 q2 r lo hi h0 n0 v U'.heap L ∧ FrameEnd s o U' L ({ frames := 3, cells := 0, slots := 0, locals := 43 } : Room).cells ({ frames := 3, cells := 0, slots := 0, locals := 43 } : Room).slots) (s₁.setTop (mkF m 0 #[.val (.ref a1), .val (.long q2), .second] []))
  refine own_via (fun _ => XS.aloadN X0.here hx rfl (hb hby d6_0) rfl rfl) ?_
  show own_Go p e below _ (s₁.setTop (mkF m 1 #[.val (.ref a1), .val (.long q2), .second] [(.ref a1)]))
  obtain ⟨cq_1, kq_1, q_1a, q_1b, q_1c⟩ := isOf hZ e0 E1
  obtain ⟨_, _, ⟨T_1, L_1, k_1, n_1⟩, -, X_1, ⟨Lc_1, hQ_1, l_1, y_1, z_1⟩, st_1⟩ := X0.virtualBack hx (y := (⟨"java/time/temporal/ChronoField", "range", "()Ljava/time/temporal/ValueRange;"⟩ : MethodName)) (z := (⟨"java/time/temporal/ChronoField", "range", "()Ljava/time/temporal/ValueRange;"⟩ : MethodName)) hown (mvT hZ (own_w hw 35 rfl)) (mvT hZ (own_w hw 36 rfl)) (notFace_of_selects (args := #[]) (mvT hZ (own_w hw 38 rfl))) (mvT hZ (own_w hw 38 rfl)) (mvT hZ (own_w hw 37 rfl)) (by decide) (backOf (W := 0) (rm7 l Z a0 hw [] a1 r h0 n0 Z0 F1) hZ (own_w hw 39 rfl) (own_w hw 29 rfl) (by decide) (by decide)) q_1a q_1c (g := (mkF m 1 #[.val (.ref a1), .val (.long q2), .second] [(.ref a1)])) rfl (by rw [hml]; rfl) (Steps.refl _) (argsL := []) (rest := []) (lenOf pd_3 rfl) rfl (by show 2 * 0 + _ ≤ _; exact Nat.le_of_eq rfl) (hb hby d6_1) (fun _ _ => ⟨rfl, e0, (by decide : 0 + 0 ≤ _), (by decide : 0 + 0 ≤ _)⟩)
  dsimp only [Pt.U, Pt.locs, Pt.cells, Pt.slots] at X_1 l_1 y_1 z_1 st_1 hQ_1
  subst l_1 y_1 z_1
  obtain ⟨rfl, Nq_1, K_1q⟩ := hQ_1
  have N_1 := Fr.app N0 Nq_1
  refine own_via (fun _ k => st_1.trans k) ?_
  show own_Go p e below _ (T_1.setTop (mkF m 4 #[.val (.ref a1), .val (.long q2), .second] [(.ref r)]))
  refine own_via (fun _ => XS.lloadN X_1.here hx rfl (hb hby d6_4) rfl) ?_
  show own_Go p e below _ (T_1.setTop (mkF m 5 #[.val (.ref a1), .val (.long q2), .second] [(.long q2), (.ref r)]))
  refine own_via (fun _ => XS.aloadN X_1.here hx rfl (hb hby d6_5) rfl rfl) ?_
  show own_Go p e below _ (T_1.setTop (mkF m 6 #[.val (.ref a1), .val (.long q2), .second] [(.ref a1), (.long q2), (.ref r)]))
  have K_2 : Keep h0 T_1.heap [] := Keep.trans (ws := []) (Keep.refl h0 []) K_1q all0
  obtain ⟨cq_3, kq_3, q_3a, q_3b, q_3c⟩ := isOf hZ rfl (E2.keep K_2)
  obtain ⟨_, _, ⟨T_3, L_3, k_3, n_3⟩, -, X_3, ⟨Lc_3, hQ_3, l_3, y_3, z_3⟩, st_3⟩ := X_1.virtualBack hx (y := (⟨"java/time/temporal/ValueRange", "checkValidValue", "(JLjava/time/temporal/TemporalField;)J"⟩ : MethodName)) (z := (⟨"java/time/temporal/ValueRange", "checkValidValue", "(JLjava/time/temporal/TemporalField;)J"⟩ : MethodName)) hown (mvT hZ (own_w hw 42 rfl)) (mvT hZ (own_w hw 43 rfl)) (notFace_of_selects (args := #[]) (mvT hZ (own_w hw 45 rfl))) (mvT hZ (own_w hw 45 rfl)) (mvT hZ (own_w hw 44 rfl)) (by decide) (backOf (W := 0) (rm8 l Z a0 hw [] r q2 a1 lo hi T_1.heap n0 (Nat.le_trans Z0 K_2.1) (E2.keep K_2) (F2.keep K_2 nin0) (F3.keep K_2 nin0) hlo hhi) hZ (own_w hw 47 rfl) (own_w hw 46 rfl) (by decide) (by decide)) q_3a q_3c (g := (mkF m 6 #[.val (.ref a1), .val (.long q2), .second] [(.ref a1), (.long q2), (.ref r)])) rfl (by rw [hml]; rfl) (Steps.refl _) (argsL := [(.long q2), (.ref a1)]) (rest := []) (lenOf pd_4 rfl) rfl (by show 2 * 0 + _ ≤ _; exact Nat.le_of_eq rfl) (hb hby d6_6) (fun _ _ => ⟨rfl, rfl, (by decide : 0 + 0 ≤ _), (by decide : 0 + 0 ≤ _)⟩)
  dsimp only [Pt.U, Pt.locs, Pt.cells, Pt.slots] at X_3 l_3 y_3 z_3 st_3 hQ_3
  subst l_3 y_3 z_3
  obtain ⟨rfl, Nq_3, K_3q⟩ := hQ_3
  have N_3 := Fr.app N_1 Nq_3
  refine own_via (fun _ k => st_3.trans k) ?_
  show own_Go p e below _ (T_3.setTop (mkF m 9 #[.val (.ref a1), .val (.long q2), .second] [(.long q2)]))
  have K_4 : Keep h0 T_3.heap [] := Keep.trans (ws := []) K_2 K_3q all0
  exact own_retv X_3 Bd.notSynchronized hx Bd.returns rfl (Or.inr (Or.inl ⟨rfl, rfl, _, rfl⟩)) (hb hby d6_9) (by decide) (by decide) ⟨rfl, N_3, K_4⟩
theorem d12_0 : decode jdk_2340_method_9_code 0 = .ok (.aload_n 0, 1) := by decide +kernel
theorem d12_1 : decode jdk_2340_method_9_code 1 = .ok (.invokespecial 147, 3) := by decide +kernel
theorem d12_4 : decode jdk_2340_method_9_code 4 = .ok (.aload_n 0, 1) := by decide +kernel
theorem d12_5 : decode jdk_2340_method_9_code 5 = .ok (.iload_n 1, 1) := by decide +kernel
theorem d12_6 : decode jdk_2340_method_9_code 6 = .ok (.putfield 150, 3) := by decide +kernel
theorem d12_9 : decode jdk_2340_method_9_code 9 = .ok (.aload_n 0, 1) := by decide +kernel
theorem d12_10 : decode jdk_2340_method_9_code 10 = .ok (.iload_n 2, 1) := by decide +kernel
theorem d12_11 : decode jdk_2340_method_9_code 11 = .ok (.putfield 154, 3) := by decide +kernel
theorem d12_14 : decode jdk_2340_method_9_code 14 = .ok (.return_, 1) := by decide +kernel
theorem pn_java_time_YearMonth : plainName "java/time/YearMonth" = true := by first | (simp [plainName, overriddenIn]; done) | decide +kernel
theorem ef_12 (m : MethodId) (a1 : Addr) (p2 : Int32) (p3 : Int32) : entryFrame m #[(.ref a1), (.int p2), (.int p3)] 3 = mkF m 0 #[.val (.ref a1), .val (.int p2), .val (.int p3)] [] := by first | (simp [entryFrame, mkF, argsToLocals, Value.category]; done) | rfl
def Q12 (Z : State) (a1 : Addr) (p2 : Int32) (p3 : Int32) (h0 : Heap) (n0 : Nat) (v : Option Value) (h : Heap) (L : List Loc) : Prop := v = none ∧ Fr n0 L ∧ Keep h0 h [a1] ∧ (Fld Z h a1 "java/time/YearMonth" "year" "I" (.int p2)) ∧ (Fld Z h a1 "java/time/YearMonth" "month" "I" (.int p3))
set_option maxRecDepth 65536 in
set_option maxHeartbeats 40000000 in
theorem rm12 (l : Launch) (Z : State) (a0 : Array Value) (hw : ∀ d ∈ tables_1, d.before a0 Z = true) (ws : List Jvm.Cond) (a1 : Addr) (p2 : Int32) (p3 : Int32) (h0 : Heap) (n0 : Nat) (Z0 : n0 ≤ h0.size) (E1 : Exa Z h0 a1 "java/time/YearMonth") (F1 : Fld Z h0 a1 "java/time/YearMonth" "year" "I" (.int (0 : Int32))) (F2 : Fld Z h0 a1 "java/time/YearMonth" "month" "I" (.int (0 : Int32))) (g1 : n0 ≤ a1) :
    MetFree l (⟨"java/time/YearMonth", "<init>", "(II)V"⟩ : MethodName) (head1 (Jvm.Cond.code (⟨"java/time/YearMonth", "<init>", "(II)V"⟩ : MethodName) jdk_2340_method_9_code 3 none :: ws) ({ frames := 1, cells := 0, slots := 0, locals := 12 } : Room)) (fun a U => a = #[(.ref a1), (.int p2), (.int p3)] ∧ Z.Warmed39 U.vm ∧ U.heap = h0) (fun _ _ _ _ _ => True) (fun _ U o U' => ∃ v L, o = .returned v ∧ Q12 Z a1 p2 p3 h0 n0 v U'.heap L ∧ FrameEnd U o U' L ({ frames := 1, cells := 0, slots := 0, locals := 12 } : Room).cells ({ frames := 1, cells := 0, slots := 0, locals := 12 } : Room).slots) := by
  refine MetFree.of_bodySF (plainFor_of_name pn_java_time_YearMonth) hisR ?_
  intro p e s m args below meth c s₁ Bd hml0 hP hK
  obtain ⟨rfl, hZ, hH0⟩ := hP
  have hx := Bd.exec
  have hby := Bd.bytes
  have hml : c.maxLocals = 3 := hml0
  have hown : s.vm.findClass "java/time/YearMonth" = some m.cls := findClass_of_methodNamed Bd.named
  have hnm := (name_of_methodNamed Bd.named Bd.method).1
  have X0 : Stand p l e ({ frames := 1, cells := 0, slots := 0, locals := 12 } : Room) s m #[(.ref a1), (.int p2), (.int p3)] below meth c s₁ [] 0 0 := Stand.of_body Bd
  have e0 : s₁.heap = h0 := by rw [← hH0, Bd.state]; rfl
  have N0 := Fr.nil n0
  refine own_cast (ef_12 m a1 p2 p3) ?_
  show own_Go p e below (fun o U' => ∃ v L, o = .returned v ∧ Q12 Z a1 p2 p3 h0 n0 v U'.heap L ∧ FrameEnd s o U' L ({ frames := 1, cells := 0, slots := 0, locals := 12 } : Room).cells ({ frames := 1, cells := 0, slots := 0, locals := 12 } : Room).slots) (s₁.setTop (mkF m 0 #[.val (.ref a1), .val (.int p2), .val (.int p3)] []))
  refine own_via (fun _ => XS.aloadN X0.here hx rfl (hb hby d12_0) rfl rfl) ?_
  show own_Go p e below _ (s₁.setTop (mkF m 1 #[.val (.ref a1), .val (.int p2), .val (.int p3)] [(.ref a1)]))
  obtain ⟨T_1, X_1, e_1, st_1⟩ := initO X0 hx hZ hown (own_w hw 74 rfl) (own_w hw 13 rfl) (own_w hw 14 rfl) e0 (g := (mkF m 1 #[.val (.ref a1), .val (.int p2), .val (.int p3)] [(.ref a1)])) rfl (by rw [hml]; rfl) rfl (hb hby d12_1) (by decide) (W := 0) (by show 2 * 0 + _ ≤ _; exact Nat.le_of_eq rfl) (by decide)
  refine own_via st_1 ?_
  show own_Go p e below _ (T_1.setTop (mkF m 4 #[.val (.ref a1), .val (.int p2), .val (.int p3)] []))
  refine own_via (fun _ => XS.aloadN X_1.here hx rfl (hb hby d12_4) rfl rfl) ?_
  show own_Go p e below _ (T_1.setTop (mkF m 5 #[.val (.ref a1), .val (.int p2), .val (.int p3)] [(.ref a1)]))
  refine own_via (fun _ => XS.iloadN X_1.here hx rfl (hb hby d12_5) rfl) ?_
  show own_Go p e below _ (T_1.setTop (mkF m 6 #[.val (.ref a1), .val (.int p2), .val (.int p3)] [(.int p2), (.ref a1)]))
  obtain ⟨T_2, h_2, X_2, e_2, W_2, st_2⟩ := putF X_1 hx hZ hown (host := "") (Or.inl (own_w hw 75 rfl)) Via.refl e_1 F1 E1 (Or.inr ⟨(own_w hw 76 rfl), rfl, hnm⟩) (own_w hw 69 rfl) (ty := .int) (by decide) rfl rfl (g := (mkF m 6 #[.val (.ref a1), .val (.int p2), .val (.int p3)] [(.int p2), (.ref a1)])) rfl rfl (hb hby d12_6)
  have F_3 : Fld Z h_2 a1 "java/time/YearMonth" "month" "I" (.int (0 : Int32)) := F2.other W_2 (Or.inr (slot_ne (Or.inr (own_w hw 78 rfl)) (Or.inr (own_w hw 76 rfl)) (by decide) (t := .int) (t' := .int) (by decide) (by decide)))
  have F_4 : Fld Z h_2 a1 "java/time/YearMonth" "year" "I" (.int p2) := F1.same W_2
  have N_2 := Fr.snoc X_2 N0 g1
  refine own_via st_2 ?_
  show own_Go p e below _ (T_2.setTop (mkF m 9 #[.val (.ref a1), .val (.int p2), .val (.int p3)] []))
  refine own_via (fun _ => XS.aloadN X_2.here hx rfl (hb hby d12_9) rfl rfl) ?_
  show own_Go p e below _ (T_2.setTop (mkF m 10 #[.val (.ref a1), .val (.int p2), .val (.int p3)] [(.ref a1)]))
  refine own_via (fun _ => XS.iloadN X_2.here hx rfl (hb hby d12_10) rfl) ?_
  show own_Go p e below _ (T_2.setTop (mkF m 11 #[.val (.ref a1), .val (.int p2), .val (.int p3)] [(.int p3), (.ref a1)]))
  have K_5 : Keep h0 h_2 [a1] := Keep.wr (ws := [a1]) (own_keep_mono (Keep.refl h0 []) (by simp)) W_2 (Or.inl (List.mem_of_getElem? (i := 0) rfl))
  obtain ⟨T_6, h_6, X_6, e_6, W_6, st_6⟩ := putF X_2 hx hZ hown (host := "") (Or.inl (own_w hw 77 rfl)) Via.refl e_2 F_3 (E1.keep K_5) (Or.inr ⟨(own_w hw 78 rfl), rfl, hnm⟩) (own_w hw 69 rfl) (ty := .int) (by decide) rfl rfl (g := (mkF m 11 #[.val (.ref a1), .val (.int p2), .val (.int p3)] [(.int p3), (.ref a1)])) rfl rfl (hb hby d12_11)
  have F_7 : Fld Z h_6 a1 "java/time/YearMonth" "year" "I" (.int p2) := F_4.other W_6 (Or.inr (slot_ne (Or.inr (own_w hw 76 rfl)) (Or.inr (own_w hw 78 rfl)) (by decide) (t := .int) (t' := .int) (by decide) (by decide)))
  have F_8 : Fld Z h_6 a1 "java/time/YearMonth" "month" "I" (.int p3) := F_3.same W_6
  have N_6 := Fr.snoc X_6 N_2 g1
  refine own_via st_6 ?_
  show own_Go p e below _ (T_6.setTop (mkF m 14 #[.val (.ref a1), .val (.int p2), .val (.int p3)] []))
  have K_9 : Keep h0 h_6 [a1] := Keep.wr (ws := [a1]) K_5 W_6 (Or.inl (List.mem_of_getElem? (i := 0) rfl))
  exact own_ret0 X_6 Bd.notSynchronized hx Bd.returns (hb hby d12_14) (by decide) (by decide) (by rw [e_6]; exact ⟨rfl, N_6, K_9, F_7, F_8⟩)
theorem d5_0 : decode jdk_2340_method_5_code 0 = .ok (.getstatic 50, 3) := by decide +kernel
theorem d5_3 : decode jdk_2340_method_5_code 3 = .ok (.iload_n 0, 1) := by decide +kernel
theorem d5_4 : decode jdk_2340_method_5_code 4 = .ok (.i2l, 1) := by decide +kernel
theorem d5_5 : decode jdk_2340_method_5_code 5 = .ok (.invokevirtual 56, 3) := by decide +kernel
theorem d5_8 : decode jdk_2340_method_5_code 8 = .ok (.pop2, 1) := by decide +kernel
theorem d5_9 : decode jdk_2340_method_5_code 9 = .ok (.getstatic 60, 3) := by decide +kernel
theorem d5_12 : decode jdk_2340_method_5_code 12 = .ok (.iload_n 1, 1) := by decide +kernel
theorem d5_13 : decode jdk_2340_method_5_code 13 = .ok (.i2l, 1) := by decide +kernel
theorem d5_14 : decode jdk_2340_method_5_code 14 = .ok (.invokevirtual 56, 3) := by decide +kernel
theorem d5_17 : decode jdk_2340_method_5_code 17 = .ok (.pop2, 1) := by decide +kernel
theorem d5_18 : decode jdk_2340_method_5_code 18 = .ok (.new 8, 3) := by decide +kernel
theorem d5_21 : decode jdk_2340_method_5_code 21 = .ok (.dup, 1) := by decide +kernel
theorem d5_22 : decode jdk_2340_method_5_code 22 = .ok (.iload_n 0, 1) := by decide +kernel
theorem d5_23 : decode jdk_2340_method_5_code 23 = .ok (.iload_n 1, 1) := by decide +kernel
theorem d5_24 : decode jdk_2340_method_5_code 24 = .ok (.invokespecial 63, 3) := by decide +kernel
theorem d5_27 : decode jdk_2340_method_5_code 27 = .ok (.areturn, 1) := by decide +kernel
theorem pd_5 : parseMethodDescriptor "(J)J" = some ⟨[.long], some .long⟩ := by decide +kernel
theorem pd_6 : parseMethodDescriptor "(II)V" = some ⟨[.int, .int], none⟩ := by decide +kernel
theorem ef_5 (m : MethodId) (p1 : Int32) (p2 : Int32) : entryFrame m #[(.int p1), (.int p2)] 2 = mkF m 0 #[.val (.int p1), .val (.int p2)] [] := by first | (simp [entryFrame, mkF, argsToLocals, Value.category]; done) | rfl
def Q5 (Z : State) (p1 : Int32) (p2 : Int32) (yy : Addr) (yr : Addr) (my : Addr) (mr : Addr) (h0 : Heap) (n0 : Nat) (v : Option Value) (h : Heap) (L : List Loc) : Prop := ∃ rr : Addr, v = some (.ref rr) ∧ Fr n0 L ∧ Keep h0 h [] ∧ (h0.size ≤ rr) ∧ (Exa Z h rr "java/time/YearMonth") ∧ (Fld Z h rr "java/time/YearMonth" "year" "I" (.int p1)) ∧ (Fld Z h rr "java/time/YearMonth" "month" "I" (.int p2))
set_option maxRecDepth 65536 in
set_option maxHeartbeats 40000000 in
theorem rm5 (l : Launch) (Z : State) (a0 : Array Value) (hw : ∀ d ∈ tables_1, d.before a0 Z = true) (ws : List Jvm.Cond) (p1 : Int32) (p2 : Int32) (yy : Addr) (yr : Addr) (my : Addr) (mr : Addr) (h0 : Heap) (n0 : Nat) (Z0 : n0 ≤ h0.size) (O0 : Old Z n0 h0) (Syy : Sta Z Z.heap "java/time/temporal/ChronoField" "YEAR" "Ljava/time/temporal/ChronoField;" (.ref yy)) (Eyy : Exa Z Z.heap yy "java/time/temporal/ChronoField") (Fyy : Fld Z Z.heap yy "java/time/temporal/ChronoField" "range" "Ljava/time/temporal/ValueRange;" (.ref yr)) (Eyr : Exa Z Z.heap yr "java/time/temporal/ValueRange") (Fayr : Fld Z Z.heap yr "java/time/temporal/ValueRange" "minSmallest" "J" (.long (-999999999 : Int64))) (Fbyr : Fld Z Z.heap yr "java/time/temporal/ValueRange" "maxLargest" "J" (.long (999999999 : Int64))) (Smy : Sta Z Z.heap "java/time/temporal/ChronoField" "MONTH_OF_YEAR" "Ljava/time/temporal/ChronoField;" (.ref my)) (Emy : Exa Z Z.heap my "java/time/temporal/ChronoField") (Fmy : Fld Z Z.heap my "java/time/temporal/ChronoField" "range" "Ljava/time/temporal/ValueRange;" (.ref mr)) (Emr : Exa Z Z.heap mr "java/time/temporal/ValueRange") (Famr : Fld Z Z.heap mr "java/time/temporal/ValueRange" "minSmallest" "J" (.long (1 : Int64))) (Fbmr : Fld Z Z.heap mr "java/time/temporal/ValueRange" "maxLargest" "J" (.long (12 : Int64))) (hy1 : ¬ (p1.toInt64 < (-999999999 : Int64))) (hy2 : ¬ ((999999999 : Int64) < p1.toInt64)) (hm1 : ¬ (p2.toInt64 < (1 : Int64))) (hm2 : ¬ ((12 : Int64) < p2.toInt64)) :
    MetFree l (⟨"java/time/YearMonth", "of", "(II)Ljava/time/YearMonth;"⟩ : MethodName) (head1 (Jvm.Cond.code (⟨"java/time/YearMonth", "of", "(II)Ljava/time/YearMonth;"⟩ : MethodName) jdk_2340_method_5_code 2 (some (.object "java/time/YearMonth")) :: ws) ({ frames := 4, cells := 1, slots := 2, locals := 57 } : Room)) (fun a U => a = #[(.int p1), (.int p2)] ∧ Z.Warmed39 U.vm ∧ U.heap = h0) (fun _ _ _ _ _ => True) (fun _ U o U' => ∃ v L, o = .returned v ∧ Q5 Z p1 p2 yy yr my mr h0 n0 v U'.heap L ∧ FrameEnd U o U' L ({ frames := 4, cells := 1, slots := 2, locals := 57 } : Room).cells ({ frames := 4, cells := 1, slots := 2, locals := 57 } : Room).slots) := by
  refine MetFree.of_bodySF (plainFor_of_name pn_java_time_YearMonth) hisR ?_
  intro p e s m args below meth c s₁ Bd hml0 hP hK
  obtain ⟨rfl, hZ, hH0⟩ := hP
  have hx := Bd.exec
  have hby := Bd.bytes
  have hml : c.maxLocals = 2 := hml0
  have hown : s.vm.findClass "java/time/YearMonth" = some m.cls := findClass_of_methodNamed Bd.named
  have hnm := (name_of_methodNamed Bd.named Bd.method).1
  have X0 : Stand p l e ({ frames := 4, cells := 1, slots := 2, locals := 57 } : Room) s m #[(.int p1), (.int p2)] below meth c s₁ [] 0 0 := Stand.of_body Bd
  have e0 : s₁.heap = h0 := by rw [← hH0, Bd.state]; rfl
  have N0 := Fr.nil n0
  refine own_cast (ef_5 m p1 p2) ?_
  show own_Go p e below (fun o U' => ∃ v L, o = .returned v ∧ Q5 Z p1 p2 yy yr my mr h0 n0 v U'.heap L ∧ FrameEnd s o U' L ({ frames := 4, cells := 1, slots := 2, locals := 57 } : Room).cells ({ frames := 4, cells := 1, slots := 2, locals := 57 } : Room).slots) (s₁.setTop (mkF m 0 #[.val (.int p1), .val (.int p2)] []))
  obtain ⟨T_1, X_1, e_1, st_1⟩ := getS2 X0 hx hZ hown (host := "") (Or.inl (own_w hw 28 rfl)) Via.refl e0 (Syy.ext O0.2) (g := (mkF m 0 #[.val (.int p1), .val (.int p2)] [])) rfl (hb hby d5_0)
  refine own_via st_1 ?_
  show own_Go p e below _ (T_1.setTop (mkF m 3 #[.val (.int p1), .val (.int p2)] [(.ref yy)]))
  refine own_via (fun _ => XS.iloadN X_1.here hx rfl (hb hby d5_3) rfl) ?_
  show own_Go p e below _ (T_1.setTop (mkF m 4 #[.val (.int p1), .val (.int p2)] [(.int p1), (.ref yy)]))
  refine own_via (fun _ => XS.i2l X_1.here hx rfl (hb hby d5_4) rfl) ?_
  show own_Go p e below _ (T_1.setTop (mkF m 5 #[.val (.int p1), .val (.int p2)] [(.long (p1.toInt64)), (.ref yy)]))
  obtain ⟨cq_2, kq_2, q_2a, q_2b, q_2c⟩ := isOf hZ e_1 (Eyy.ext O0.2)
  obtain ⟨_, _, ⟨T_2, L_2, k_2, n_2⟩, -, X_2, ⟨Lc_2, hQ_2, l_2, y_2, z_2⟩, st_2⟩ := X_1.virtualBack hx (y := (⟨"java/time/temporal/ChronoField", "checkValidValue", "(J)J"⟩ : MethodName)) (z := (⟨"java/time/temporal/ChronoField", "checkValidValue", "(J)J"⟩ : MethodName)) hown (mvT hZ (own_w hw 30 rfl)) (mvT hZ (own_w hw 31 rfl)) (notFace_of_selects (args := #[]) (mvT hZ (own_w hw 33 rfl))) (mvT hZ (own_w hw 33 rfl)) (mvT hZ (own_w hw 32 rfl)) (by decide) (backOf (W := 0) (rm6 l Z a0 hw [] yy (p1.toInt64) yr (-999999999 : Int64) (999999999 : Int64) h0 n0 Z0 (Eyy.ext O0.2) (Fyy.ext O0.2) (Eyr.ext O0.2) (Fayr.ext O0.2) (Fbyr.ext O0.2) hy1 hy2) hZ (own_w hw 34 rfl) (own_w hw 29 rfl) (by decide) (by decide)) q_2a q_2c (g := (mkF m 5 #[.val (.int p1), .val (.int p2)] [(.long (p1.toInt64)), (.ref yy)])) rfl (by rw [hml]; rfl) (Steps.refl _) (argsL := [(.long (p1.toInt64))]) (rest := []) (lenOf pd_5 rfl) rfl (by show 2 * 0 + _ ≤ _; exact Nat.le_of_eq rfl) (hb hby d5_5) (fun _ _ => ⟨rfl, e_1, (by decide : 0 + 0 ≤ _), (by decide : 0 + 0 ≤ _)⟩)
  dsimp only [Pt.U, Pt.locs, Pt.cells, Pt.slots] at X_2 l_2 y_2 z_2 st_2 hQ_2
  subst l_2 y_2 z_2
  obtain ⟨rfl, Nq_2, K_2q⟩ := hQ_2
  have N_2 := Fr.app N0 Nq_2
  refine own_via (fun _ k => st_2.trans k) ?_
  show own_Go p e below _ (T_2.setTop (mkF m 8 #[.val (.int p1), .val (.int p2)] [(.long (p1.toInt64))]))
  refine own_via (fun _ => own_pop2L X_2.here hx rfl (hb hby d5_8) rfl) ?_
  show own_Go p e below _ (T_2.setTop (mkF m 9 #[.val (.int p1), .val (.int p2)] []))
  have K_3 : Keep h0 T_2.heap [] := Keep.trans (ws := []) (Keep.refl h0 []) K_2q all0
  obtain ⟨T_4, X_4, e_4, st_4⟩ := getS2 X_2 hx hZ hown (host := "") (Or.inl (own_w hw 67 rfl)) Via.refl rfl (Smy.ext (O0.keep K_3 all0).2) (g := (mkF m 9 #[.val (.int p1), .val (.int p2)] [])) rfl (hb hby d5_9)
  refine own_via st_4 ?_
  show own_Go p e below _ (T_4.setTop (mkF m 12 #[.val (.int p1), .val (.int p2)] [(.ref my)]))
  refine own_via (fun _ => XS.iloadN X_4.here hx rfl (hb hby d5_12) rfl) ?_
  show own_Go p e below _ (T_4.setTop (mkF m 13 #[.val (.int p1), .val (.int p2)] [(.int p2), (.ref my)]))
  refine own_via (fun _ => XS.i2l X_4.here hx rfl (hb hby d5_13) rfl) ?_
  show own_Go p e below _ (T_4.setTop (mkF m 14 #[.val (.int p1), .val (.int p2)] [(.long (p2.toInt64)), (.ref my)]))
  obtain ⟨cq_5, kq_5, q_5a, q_5b, q_5c⟩ := isOf hZ e_4 (Emy.ext (O0.keep K_3 all0).2)
  obtain ⟨_, _, ⟨T_5, L_5, k_5, n_5⟩, -, X_5, ⟨Lc_5, hQ_5, l_5, y_5, z_5⟩, st_5⟩ := X_4.virtualBack hx (y := (⟨"java/time/temporal/ChronoField", "checkValidValue", "(J)J"⟩ : MethodName)) (z := (⟨"java/time/temporal/ChronoField", "checkValidValue", "(J)J"⟩ : MethodName)) hown (mvT hZ (own_w hw 30 rfl)) (mvT hZ (own_w hw 31 rfl)) (notFace_of_selects (args := #[]) (mvT hZ (own_w hw 33 rfl))) (mvT hZ (own_w hw 33 rfl)) (mvT hZ (own_w hw 32 rfl)) (by decide) (backOf (W := 0) (rm6 l Z a0 hw [] my (p2.toInt64) mr (1 : Int64) (12 : Int64) T_2.heap n0 (Nat.le_trans Z0 K_3.1) (Emy.ext (O0.keep K_3 all0).2) (Fmy.ext (O0.keep K_3 all0).2) (Emr.ext (O0.keep K_3 all0).2) (Famr.ext (O0.keep K_3 all0).2) (Fbmr.ext (O0.keep K_3 all0).2) hm1 hm2) hZ (own_w hw 34 rfl) (own_w hw 29 rfl) (by decide) (by decide)) q_5a q_5c (g := (mkF m 14 #[.val (.int p1), .val (.int p2)] [(.long (p2.toInt64)), (.ref my)])) rfl (by rw [hml]; rfl) (Steps.refl _) (argsL := [(.long (p2.toInt64))]) (rest := []) (lenOf pd_5 rfl) rfl (by show 2 * 0 + _ ≤ _; exact Nat.le_of_eq rfl) (hb hby d5_14) (fun _ _ => ⟨rfl, e_4, (by decide : 0 + 0 ≤ _), (by decide : 0 + 0 ≤ _)⟩)
  dsimp only [Pt.U, Pt.locs, Pt.cells, Pt.slots] at X_5 l_5 y_5 z_5 st_5 hQ_5
  subst l_5 y_5 z_5
  obtain ⟨rfl, Nq_5, K_5q⟩ := hQ_5
  have N_5 := Fr.app N_2 Nq_5
  refine own_via (fun _ k => st_5.trans k) ?_
  show own_Go p e below _ (T_5.setTop (mkF m 17 #[.val (.int p1), .val (.int p2)] [(.long (p2.toInt64))]))
  refine own_via (fun _ => own_pop2L X_5.here hx rfl (hb hby d5_17) rfl) ?_
  show own_Go p e below _ (T_5.setTop (mkF m 18 #[.val (.int p1), .val (.int p2)] []))
  obtain ⟨T_6, h_6, X_6, e_6, E_6, A_6, D_6, -, st_6⟩ := newO X_5 hx hZ hown (own_w hw 68 rfl) (own_w hw 69 rfl) (own_w hw 26 rfl) rfl (g := (mkF m 18 #[.val (.int p1), .val (.int p2)] [])) rfl (hb hby d5_18) (by decide) (by decide)
  obtain ⟨b_6, g_6⟩ : ∃ z, z = T_5.heap.size := ⟨_, rfl⟩
  rw [← g_6] at A_6 D_6 st_6
  have F_7 : Fld Z h_6 b_6 "java/time/YearMonth" "year" "I" (.int (0 : Int32)) := D_6 (Or.inr (own_w hw 76 rfl)) (ty := .int) (by decide)
  have F_8 : Fld Z h_6 b_6 "java/time/YearMonth" "month" "I" (.int (0 : Int32)) := D_6 (Or.inr (own_w hw 78 rfl)) (ty := .int) (by decide)
  refine own_via st_6 ?_
  show own_Go p e below _ (T_6.setTop (mkF m 21 #[.val (.int p1), .val (.int p2)] [(.ref b_6)]))
  refine own_via (fun _ => XS.dup X_6.here hx rfl (hb hby d5_21) rfl rfl) ?_
  show own_Go p e below _ (T_6.setTop (mkF m 22 #[.val (.int p1), .val (.int p2)] [(.ref b_6), (.ref b_6)]))
  refine own_via (fun _ => XS.iloadN X_6.here hx rfl (hb hby d5_22) rfl) ?_
  show own_Go p e below _ (T_6.setTop (mkF m 23 #[.val (.int p1), .val (.int p2)] [(.int p1), (.ref b_6), (.ref b_6)]))
  refine own_via (fun _ => XS.iloadN X_6.here hx rfl (hb hby d5_23) rfl) ?_
  show own_Go p e below _ (T_6.setTop (mkF m 24 #[.val (.int p1), .val (.int p2)] [(.int p2), (.int p1), (.ref b_6), (.ref b_6)]))
  have K_9 : Keep h0 T_5.heap [] := Keep.trans (ws := []) K_3 K_5q all0
  have K_10 : Keep h0 h_6 [] := K_9.ext E_6
  obtain ⟨_, _, ⟨T_11, L_11, k_11, n_11⟩, -, X_11, ⟨Lc_11, hQ_11, l_11, y_11, z_11⟩, st_11⟩ := X_6.specialBack hx (y := (⟨"java/time/YearMonth", "<init>", "(II)V"⟩ : MethodName)) rfl hown (mvT hZ (own_w hw 70 rfl)) (mvT hZ (own_w hw 71 rfl)) (mvT hZ (own_w hw 73 rfl)) (by decide) (backOf (W := 1) (rm12 l Z a0 hw [] b_6 p1 p2 h_6 n0 (Nat.le_trans Z0 K_10.1) A_6 F_7 F_8 (Nat.le_trans Z0 (Nat.le_trans K_9.1 (Nat.le_of_eq g_6.symm)))) hZ (own_w hw 73 rfl) (own_w hw 26 rfl) (by decide) (by decide)) (g := (mkF m 24 #[.val (.int p1), .val (.int p2)] [(.int p2), (.int p1), (.ref b_6), (.ref b_6)])) rfl (by rw [hml]; rfl) (Steps.refl _) (a := b_6) (argsL := [(.int p1), (.int p2)]) (rest := [(.ref b_6)]) (lenOf pd_6 rfl) rfl (by show 2 * 0 + _ ≤ _; exact Nat.le_of_eq rfl) (hb hby d5_24) (fun _ _ => ⟨rfl, e_6, (by decide : 1 + 0 ≤ _), (by decide : 2 + 0 ≤ _)⟩)
  dsimp only [Pt.U, Pt.locs, Pt.cells, Pt.slots] at X_11 l_11 y_11 z_11 st_11 hQ_11
  subst l_11 y_11 z_11
  obtain ⟨rfl, Nq_11, K_11q, q_11_0, q_11_1⟩ := hQ_11
  have N_11 := Fr.app N_5 Nq_11
  refine own_via (fun _ k => st_11.trans k) ?_
  show own_Go p e below _ (T_11.setTop (mkF m 27 #[.val (.int p1), .val (.int p2)] [(.ref b_6)]))
  have K_12 : Keep h_6 T_11.heap [b_6] := Keep.trans (ws := [b_6]) (own_keep_mono (Keep.refl h_6 []) (by simp)) K_11q (allS (Or.inl (List.mem_of_getElem? (i := 0) rfl)) all0)
  have K_13 : Keep h0 T_11.heap [] := Keep.trans (ws := []) K_10 K_11q (allS (Or.inr (Nat.le_trans K_9.1 (Nat.le_of_eq g_6.symm))) all0)
  exact own_retv X_11 Bd.notSynchronized hx Bd.returns rfl (Or.inr (Or.inr (Or.inr (Or.inr ⟨rfl, rfl, rfl⟩)))) (hb hby d5_27) (by decide) (by decide) ⟨b_6, rfl, N_11, K_13, (Nat.le_trans K_9.1 (Nat.le_of_eq g_6.symm)), (A_6.keep K_12), q_11_0, q_11_1⟩
theorem d4_0 : decode prog_19_method_4_code 0 = .ok (.aload_n 0, 1) := by decide +kernel
theorem d4_1 : decode prog_19_method_4_code 1 = .ok (.getfield 7, 3) := by decide +kernel
theorem d4_4 : decode prog_19_method_4_code 4 = .ok (.aload_n 0, 1) := by decide +kernel
theorem d4_5 : decode prog_19_method_4_code 5 = .ok (.getfield 13, 3) := by decide +kernel
theorem d4_8 : decode prog_19_method_4_code 8 = .ok (.iconst 1, 1) := by decide +kernel
theorem d4_9 : decode prog_19_method_4_code 9 = .ok (.isub, 1) := by decide +kernel
theorem d4_10 : decode prog_19_method_4_code 10 = .ok (.iconst 3, 1) := by decide +kernel
theorem d4_11 : decode prog_19_method_4_code 11 = .ok (.imul, 1) := by decide +kernel
theorem d4_12 : decode prog_19_method_4_code 12 = .ok (.iconst 1, 1) := by decide +kernel
theorem d4_13 : decode prog_19_method_4_code 13 = .ok (.iadd, 1) := by decide +kernel
theorem d4_14 : decode prog_19_method_4_code 14 = .ok (.invokestatic 54, 3) := by decide +kernel
theorem d4_17 : decode prog_19_method_4_code 17 = .ok (.areturn, 1) := by decide +kernel
theorem pd_7 : parseMethodDescriptor "(II)Ljava/time/YearMonth;" = some ⟨[.int, .int], some (.object "java/time/YearMonth")⟩ := by decide +kernel
theorem ef_4 (m : MethodId) (a1 : Addr) : entryFrame m #[(.ref a1)] 1 = mkF m 0 #[.val (.ref a1)] [] := by first | (simp [entryFrame, mkF, argsToLocals, Value.category]; done) | rfl
def Q4 (Z : State) (a1 : Addr) (p1 : Int32) (p2 : Int32) (yy : Addr) (yr : Addr) (my : Addr) (mr : Addr) (h0 : Heap) (n0 : Nat) (v : Option Value) (h : Heap) (L : List Loc) : Prop := ∃ rr : Addr, v = some (.ref rr) ∧ Fr n0 L ∧ Keep h0 h [] ∧ (h0.size ≤ rr) ∧ (Exa Z h rr "java/time/YearMonth") ∧ (Fld Z h rr "java/time/YearMonth" "year" "I" (.int p1)) ∧ (Fld Z h rr "java/time/YearMonth" "month" "I" (.int (((p2 - 1) * 3) + 1)))
set_option maxRecDepth 65536 in
set_option maxHeartbeats 40000000 in
theorem rm4 (l : Launch) (Z : State) (a0 : Array Value) (hw : ∀ d ∈ tables_1, d.before a0 Z = true) (ws : List Jvm.Cond) (a1 : Addr) (p1 : Int32) (p2 : Int32) (yy : Addr) (yr : Addr) (my : Addr) (mr : Addr) (h0 : Heap) (n0 : Nat) (Z0 : n0 ≤ h0.size) (O0 : Old Z n0 h0) (F1 : Fld Z h0 a1 "com/example/voce/voce/Quarter" "year" "I" (.int p1)) (F2 : Fld Z h0 a1 "com/example/voce/voce/Quarter" "number" "I" (.int p2)) (Syy : Sta Z Z.heap "java/time/temporal/ChronoField" "YEAR" "Ljava/time/temporal/ChronoField;" (.ref yy)) (Eyy : Exa Z Z.heap yy "java/time/temporal/ChronoField") (Fyy : Fld Z Z.heap yy "java/time/temporal/ChronoField" "range" "Ljava/time/temporal/ValueRange;" (.ref yr)) (Eyr : Exa Z Z.heap yr "java/time/temporal/ValueRange") (Fayr : Fld Z Z.heap yr "java/time/temporal/ValueRange" "minSmallest" "J" (.long (-999999999 : Int64))) (Fbyr : Fld Z Z.heap yr "java/time/temporal/ValueRange" "maxLargest" "J" (.long (999999999 : Int64))) (Smy : Sta Z Z.heap "java/time/temporal/ChronoField" "MONTH_OF_YEAR" "Ljava/time/temporal/ChronoField;" (.ref my)) (Emy : Exa Z Z.heap my "java/time/temporal/ChronoField") (Fmy : Fld Z Z.heap my "java/time/temporal/ChronoField" "range" "Ljava/time/temporal/ValueRange;" (.ref mr)) (Emr : Exa Z Z.heap mr "java/time/temporal/ValueRange") (Famr : Fld Z Z.heap mr "java/time/temporal/ValueRange" "minSmallest" "J" (.long (1 : Int64))) (Fbmr : Fld Z Z.heap mr "java/time/temporal/ValueRange" "maxLargest" "J" (.long (12 : Int64))) (hy1 : ¬ (p1.toInt64 < (-999999999 : Int64))) (hy2 : ¬ ((999999999 : Int64) < p1.toInt64)) (hm1 : ¬ ((((p2 - 1) * 3) + 1).toInt64 < (1 : Int64))) (hm2 : ¬ ((12 : Int64) < (((p2 - 1) * 3) + 1).toInt64)) :
    MetFree l (⟨"com/example/voce/voce/Quarter", "firstMonth", "()Ljava/time/YearMonth;"⟩ : MethodName) (head1 (Jvm.Cond.code (⟨"com/example/voce/voce/Quarter", "firstMonth", "()Ljava/time/YearMonth;"⟩ : MethodName) prog_19_method_4_code 1 (some (.object "java/time/YearMonth")) :: ws) ({ frames := 5, cells := 1, slots := 2, locals := 70 } : Room)) (fun a U => a = #[(.ref a1)] ∧ Z.Warmed39 U.vm ∧ U.heap = h0) (fun _ _ _ _ _ => True) (fun _ U o U' => ∃ v L, o = .returned v ∧ Q4 Z a1 p1 p2 yy yr my mr h0 n0 v U'.heap L ∧ FrameEnd U o U' L ({ frames := 5, cells := 1, slots := 2, locals := 70 } : Room).cells ({ frames := 5, cells := 1, slots := 2, locals := 70 } : Room).slots) := by
  refine MetFree.of_bodySF (plainFor_of_name pn_com_example_voce_voce_Quarter) hisR ?_
  intro p e s m args below meth c s₁ Bd hml0 hP hK
  obtain ⟨rfl, hZ, hH0⟩ := hP
  have hx := Bd.exec
  have hby := Bd.bytes
  have hml : c.maxLocals = 1 := hml0
  have hown : s.vm.findClass "com/example/voce/voce/Quarter" = some m.cls := findClass_of_methodNamed Bd.named
  have hnm := (name_of_methodNamed Bd.named Bd.method).1
  have X0 : Stand p l e ({ frames := 5, cells := 1, slots := 2, locals := 70 } : Room) s m #[(.ref a1)] below meth c s₁ [] 0 0 := Stand.of_body Bd
  have e0 : s₁.heap = h0 := by rw [← hH0, Bd.state]; rfl
  have N0 := Fr.nil n0
  refine own_cast (ef_4 m a1) ?_
  show own_Go p e below (fun o U' => ∃ v L, o = .returned v ∧ Q4 Z a1 p1 p2 yy yr my mr h0 n0 v U'.heap L ∧ FrameEnd s o U' L ({ frames := 5, cells := 1, slots := 2, locals := 70 } : Room).cells ({ frames := 5, cells := 1, slots := 2, locals := 70 } : Room).slots) (s₁.setTop (mkF m 0 #[.val (.ref a1)] []))
  refine own_via (fun _ => XS.aloadN X0.here hx rfl (hb hby d4_0) rfl rfl) ?_
  show own_Go p e below _ (s₁.setTop (mkF m 1 #[.val (.ref a1)] [(.ref a1)]))
  obtain ⟨T_1, X_1, e_1, st_1⟩ := getF X0 hx hZ hown (host := "") (Or.inl (own_w hw 15 rfl)) Via.refl e0 F1 (g := (mkF m 1 #[.val (.ref a1)] [(.ref a1)])) rfl rfl (hb hby d4_1)
  refine own_via st_1 ?_
  show own_Go p e below _ (T_1.setTop (mkF m 4 #[.val (.ref a1)] [(.int p1)]))
  refine own_via (fun _ => XS.aloadN X_1.here hx rfl (hb hby d4_4) rfl rfl) ?_
  show own_Go p e below _ (T_1.setTop (mkF m 5 #[.val (.ref a1)] [(.ref a1), (.int p1)]))
  obtain ⟨T_2, X_2, e_2, st_2⟩ := getF X_1 hx hZ hown (host := "") (Or.inl (own_w hw 17 rfl)) Via.refl e_1 F2 (g := (mkF m 5 #[.val (.ref a1)] [(.ref a1), (.int p1)])) rfl rfl (hb hby d4_5)
  refine own_via st_2 ?_
  show own_Go p e below _ (T_2.setTop (mkF m 8 #[.val (.ref a1)] [(.int p2), (.int p1)]))
  refine own_via (fun _ => XS.iconst X_2.here hx rfl (hb hby d4_8)) ?_
  show own_Go p e below _ (T_2.setTop (mkF m 9 #[.val (.ref a1)] [(.int (1 : Int32)), (.int p2), (.int p1)]))
  refine own_via (fun _ => XS.isub X_2.here hx rfl (hb hby d4_9) rfl) ?_
  show own_Go p e below _ (T_2.setTop (mkF m 10 #[.val (.ref a1)] [(.int (p2 - (1 : Int32))), (.int p1)]))
  refine own_via (fun _ => XS.iconst X_2.here hx rfl (hb hby d4_10)) ?_
  show own_Go p e below _ (T_2.setTop (mkF m 11 #[.val (.ref a1)] [(.int (3 : Int32)), (.int (p2 - (1 : Int32))), (.int p1)]))
  refine own_via (fun _ => XS.imul X_2.here hx rfl (hb hby d4_11) rfl) ?_
  show own_Go p e below _ (T_2.setTop (mkF m 12 #[.val (.ref a1)] [(.int ((p2 - (1 : Int32)) * (3 : Int32))), (.int p1)]))
  refine own_via (fun _ => XS.iconst X_2.here hx rfl (hb hby d4_12)) ?_
  show own_Go p e below _ (T_2.setTop (mkF m 13 #[.val (.ref a1)] [(.int (1 : Int32)), (.int ((p2 - (1 : Int32)) * (3 : Int32))), (.int p1)]))
  refine own_via (fun _ => XS.iadd X_2.here hx rfl (hb hby d4_13) rfl) ?_
  show own_Go p e below _ (T_2.setTop (mkF m 14 #[.val (.ref a1)] [(.int (((p2 - (1 : Int32)) * (3 : Int32)) + (1 : Int32))), (.int p1)]))
  obtain ⟨_, _, ⟨T_3, L_3, k_3, n_3⟩, -, X_3, ⟨Lc_3, hQ_3, l_3, y_3, z_3⟩, st_3⟩ := Jvm.LawKit.callS X_2 hx (y := (⟨"java/time/YearMonth", "of", "(II)Ljava/time/YearMonth;"⟩ : MethodName)) hown (mvT hZ (own_w hw 24 rfl)) (mvT hZ (own_w hw 25 rfl)) (mvT hZ (own_w hw 26 rfl)) (mvT hZ (own_w hw 27 rfl)) (by decide) (backOf (W := 0) (rm5 l Z a0 hw [] p1 (((p2 - (1 : Int32)) * (3 : Int32)) + (1 : Int32)) yy yr my mr h0 n0 Z0 O0 Syy Eyy Fyy Eyr Fayr Fbyr Smy Emy Fmy Emr Famr Fbmr hy1 hy2 hm1 hm2) hZ (own_w hw 27 rfl) (own_w hw 26 rfl) (by decide) (by decide)) (g := (mkF m 14 #[.val (.ref a1)] [(.int (((p2 - (1 : Int32)) * (3 : Int32)) + (1 : Int32))), (.int p1)])) rfl (by rw [hml]; rfl) (argsL := [(.int p1), (.int (((p2 - (1 : Int32)) * (3 : Int32)) + (1 : Int32)))]) (rest := []) (lenOf pd_7 rfl) rfl (by show 2 * 0 + _ ≤ _; exact Nat.le_of_eq rfl) (hb hby d4_14) (fun _ _ => ⟨rfl, e_2, (by decide : 0 + 1 ≤ _), (by decide : 0 + 2 ≤ _)⟩)
  dsimp only [Pt.U, Pt.locs, Pt.cells, Pt.slots] at X_3 l_3 y_3 z_3 st_3 hQ_3
  subst l_3 y_3 z_3
  obtain ⟨r_4, rfl, Nq_3, K_3q, q_3_0, q_3_1, q_3_2, q_3_3⟩ := hQ_3
  have N_3 := Fr.app N0 Nq_3
  refine own_via st_3 ?_
  show own_Go p e below _ (T_3.setTop (mkF m 17 #[.val (.ref a1)] [(.ref r_4)]))
  have K_5 : Keep h0 T_3.heap [] := Keep.trans (ws := []) (Keep.refl h0 []) K_3q all0
  exact own_retv X_3 Bd.notSynchronized hx Bd.returns rfl (Or.inr (Or.inr (Or.inr (Or.inr ⟨rfl, rfl, rfl⟩)))) (hb hby d4_17) (by decide) (by decide) ⟨r_4, rfl, N_3, K_5, q_3_0, q_3_1, q_3_2, q_3_3⟩
theorem d13_0 : decode jdk_2340_method_17_code 0 = .ok (.aload_n 0, 1) := by decide +kernel
theorem d13_1 : decode jdk_2340_method_17_code 1 = .ok (.getfield 150, 3) := by decide +kernel
theorem d13_4 : decode jdk_2340_method_17_code 4 = .ok (.ireturn, 1) := by decide +kernel
theorem ef_13 (m : MethodId) (a1 : Addr) : entryFrame m #[(.ref a1)] 1 = mkF m 0 #[.val (.ref a1)] [] := by first | (simp [entryFrame, mkF, argsToLocals, Value.category]; done) | rfl
def Q13 (Z : State) (a1 : Addr) (w2 : Int32) (h0 : Heap) (n0 : Nat) (v : Option Value) (h : Heap) (L : List Loc) : Prop := v = some (.int w2) ∧ Fr n0 L ∧ Keep h0 h []
set_option maxRecDepth 65536 in
set_option maxHeartbeats 40000000 in
theorem rm13 (l : Launch) (Z : State) (a0 : Array Value) (hw : ∀ d ∈ tables_1, d.before a0 Z = true) (ws : List Jvm.Cond) (a1 : Addr) (w2 : Int32) (h0 : Heap) (n0 : Nat) (Z0 : n0 ≤ h0.size) (F1 : Fld Z h0 a1 "java/time/YearMonth" "year" "I" (.int w2)) :
    MetFree l (⟨"java/time/YearMonth", "getYear", "()I"⟩ : MethodName) (head1 (Jvm.Cond.code (⟨"java/time/YearMonth", "getYear", "()I"⟩ : MethodName) jdk_2340_method_17_code 1 (some .int) :: ws) ({ frames := 0, cells := 0, slots := 0, locals := 0 } : Room)) (fun a U => a = #[(.ref a1)] ∧ Z.Warmed39 U.vm ∧ U.heap = h0) (fun _ _ _ _ _ => True) (fun _ U o U' => ∃ v L, o = .returned v ∧ Q13 Z a1 w2 h0 n0 v U'.heap L ∧ FrameEnd U o U' L ({ frames := 0, cells := 0, slots := 0, locals := 0 } : Room).cells ({ frames := 0, cells := 0, slots := 0, locals := 0 } : Room).slots) := by
  refine MetFree.of_bodySF (plainFor_of_name pn_java_time_YearMonth) hisR ?_
  intro p e s m args below meth c s₁ Bd hml0 hP hK
  obtain ⟨rfl, hZ, hH0⟩ := hP
  have hx := Bd.exec
  have hby := Bd.bytes
  have hml : c.maxLocals = 1 := hml0
  have hown : s.vm.findClass "java/time/YearMonth" = some m.cls := findClass_of_methodNamed Bd.named
  have hnm := (name_of_methodNamed Bd.named Bd.method).1
  have X0 : Stand p l e ({ frames := 0, cells := 0, slots := 0, locals := 0 } : Room) s m #[(.ref a1)] below meth c s₁ [] 0 0 := Stand.of_body Bd
  have e0 : s₁.heap = h0 := by rw [← hH0, Bd.state]; rfl
  have N0 := Fr.nil n0
  refine own_cast (ef_13 m a1) ?_
  show own_Go p e below (fun o U' => ∃ v L, o = .returned v ∧ Q13 Z a1 w2 h0 n0 v U'.heap L ∧ FrameEnd s o U' L ({ frames := 0, cells := 0, slots := 0, locals := 0 } : Room).cells ({ frames := 0, cells := 0, slots := 0, locals := 0 } : Room).slots) (s₁.setTop (mkF m 0 #[.val (.ref a1)] []))
  refine own_via (fun _ => XS.aloadN X0.here hx rfl (hb hby d13_0) rfl rfl) ?_
  show own_Go p e below _ (s₁.setTop (mkF m 1 #[.val (.ref a1)] [(.ref a1)]))
  obtain ⟨T_1, X_1, e_1, st_1⟩ := getF X0 hx hZ hown (host := "") (Or.inl (own_w hw 75 rfl)) Via.refl e0 F1 (g := (mkF m 1 #[.val (.ref a1)] [(.ref a1)])) rfl rfl (hb hby d13_1)
  refine own_via st_1 ?_
  show own_Go p e below _ (T_1.setTop (mkF m 4 #[.val (.ref a1)] [(.int w2)]))
  exact own_retv X_1 Bd.notSynchronized hx Bd.returns rfl (Or.inl ⟨rfl, (by simp), _, rfl⟩) (hb hby d13_4) (by decide) (by decide) (by rw [e_1]; exact ⟨rfl, N0, (Keep.refl h0 [])⟩)
theorem d14_0 : decode jdk_2340_method_18_code 0 = .ok (.aload_n 0, 1) := by decide +kernel
theorem d14_1 : decode jdk_2340_method_18_code 1 = .ok (.getfield 154, 3) := by decide +kernel
theorem d14_4 : decode jdk_2340_method_18_code 4 = .ok (.ireturn, 1) := by decide +kernel
theorem ef_14 (m : MethodId) (a1 : Addr) : entryFrame m #[(.ref a1)] 1 = mkF m 0 #[.val (.ref a1)] [] := by first | (simp [entryFrame, mkF, argsToLocals, Value.category]; done) | rfl
def Q14 (Z : State) (a1 : Addr) (w2 : Int32) (h0 : Heap) (n0 : Nat) (v : Option Value) (h : Heap) (L : List Loc) : Prop := v = some (.int w2) ∧ Fr n0 L ∧ Keep h0 h []
set_option maxRecDepth 65536 in
set_option maxHeartbeats 40000000 in
theorem rm14 (l : Launch) (Z : State) (a0 : Array Value) (hw : ∀ d ∈ tables_1, d.before a0 Z = true) (ws : List Jvm.Cond) (a1 : Addr) (w2 : Int32) (h0 : Heap) (n0 : Nat) (Z0 : n0 ≤ h0.size) (F1 : Fld Z h0 a1 "java/time/YearMonth" "month" "I" (.int w2)) :
    MetFree l (⟨"java/time/YearMonth", "getMonthValue", "()I"⟩ : MethodName) (head1 (Jvm.Cond.code (⟨"java/time/YearMonth", "getMonthValue", "()I"⟩ : MethodName) jdk_2340_method_18_code 1 (some .int) :: ws) ({ frames := 0, cells := 0, slots := 0, locals := 0 } : Room)) (fun a U => a = #[(.ref a1)] ∧ Z.Warmed39 U.vm ∧ U.heap = h0) (fun _ _ _ _ _ => True) (fun _ U o U' => ∃ v L, o = .returned v ∧ Q14 Z a1 w2 h0 n0 v U'.heap L ∧ FrameEnd U o U' L ({ frames := 0, cells := 0, slots := 0, locals := 0 } : Room).cells ({ frames := 0, cells := 0, slots := 0, locals := 0 } : Room).slots) := by
  refine MetFree.of_bodySF (plainFor_of_name pn_java_time_YearMonth) hisR ?_
  intro p e s m args below meth c s₁ Bd hml0 hP hK
  obtain ⟨rfl, hZ, hH0⟩ := hP
  have hx := Bd.exec
  have hby := Bd.bytes
  have hml : c.maxLocals = 1 := hml0
  have hown : s.vm.findClass "java/time/YearMonth" = some m.cls := findClass_of_methodNamed Bd.named
  have hnm := (name_of_methodNamed Bd.named Bd.method).1
  have X0 : Stand p l e ({ frames := 0, cells := 0, slots := 0, locals := 0 } : Room) s m #[(.ref a1)] below meth c s₁ [] 0 0 := Stand.of_body Bd
  have e0 : s₁.heap = h0 := by rw [← hH0, Bd.state]; rfl
  have N0 := Fr.nil n0
  refine own_cast (ef_14 m a1) ?_
  show own_Go p e below (fun o U' => ∃ v L, o = .returned v ∧ Q14 Z a1 w2 h0 n0 v U'.heap L ∧ FrameEnd s o U' L ({ frames := 0, cells := 0, slots := 0, locals := 0 } : Room).cells ({ frames := 0, cells := 0, slots := 0, locals := 0 } : Room).slots) (s₁.setTop (mkF m 0 #[.val (.ref a1)] []))
  refine own_via (fun _ => XS.aloadN X0.here hx rfl (hb hby d14_0) rfl rfl) ?_
  show own_Go p e below _ (s₁.setTop (mkF m 1 #[.val (.ref a1)] [(.ref a1)]))
  obtain ⟨T_1, X_1, e_1, st_1⟩ := getF X0 hx hZ hown (host := "") (Or.inl (own_w hw 77 rfl)) Via.refl e0 F1 (g := (mkF m 1 #[.val (.ref a1)] [(.ref a1)])) rfl rfl (hb hby d14_1)
  refine own_via st_1 ?_
  show own_Go p e below _ (T_1.setTop (mkF m 4 #[.val (.ref a1)] [(.int w2)]))
  exact own_retv X_1 Bd.notSynchronized hx Bd.returns rfl (Or.inl ⟨rfl, (by simp), _, rfl⟩) (hb hby d14_4) (by decide) (by decide) (by rw [e_1]; exact ⟨rfl, N0, (Keep.refl h0 [])⟩)
theorem d15_0 : decode method_2_code 0 = .ok (.iload_n 0, 1) := by decide +kernel
theorem d15_1 : decode method_2_code 1 = .ok (.iconst 1, 1) := by decide +kernel
theorem d15_2 : decode method_2_code 2 = .ok (.if_icmp .ne 5, 3) := by decide +kernel
theorem d15_5 : decode method_2_code 5 = .ok (.iconst 1, 1) := by decide +kernel
theorem d15_6 : decode method_2_code 6 = .ok (.ireturn, 1) := by decide +kernel
theorem d15_7 : decode method_2_code 7 = .ok (.iload_n 0, 1) := by decide +kernel
theorem d15_8 : decode method_2_code 8 = .ok (.iconst 2, 1) := by decide +kernel
theorem d15_9 : decode method_2_code 9 = .ok (.if_icmp .ne 5, 3) := by decide +kernel
theorem d15_12 : decode method_2_code 12 = .ok (.iconst 4, 1) := by decide +kernel
theorem d15_13 : decode method_2_code 13 = .ok (.ireturn, 1) := by decide +kernel
theorem d15_14 : decode method_2_code 14 = .ok (.iload_n 0, 1) := by decide +kernel
theorem d15_15 : decode method_2_code 15 = .ok (.iconst 3, 1) := by decide +kernel
theorem d15_16 : decode method_2_code 16 = .ok (.if_icmp .ne 6, 3) := by decide +kernel
theorem d15_19 : decode method_2_code 19 = .ok (.bipush 7, 2) := by decide +kernel
theorem d15_21 : decode method_2_code 21 = .ok (.ireturn, 1) := by decide +kernel
theorem d15_22 : decode method_2_code 22 = .ok (.bipush 10, 2) := by decide +kernel
theorem d15_24 : decode method_2_code 24 = .ok (.ireturn, 1) := by decide +kernel
theorem pn_com_example_voce_voce_QuarterFirstMonthPinLaw : plainName "com/example/voce/voce/QuarterFirstMonthPinLaw" = true := by first | (simp [plainName, overriddenIn]; done) | decide +kernel
theorem ef_15 (m : MethodId) (p1 : Int32) : entryFrame m #[(.int p1)] 1 = mkF m 0 #[.val (.int p1)] [] := by first | (simp [entryFrame, mkF, argsToLocals, Value.category]; done) | rfl
def Q15 (Z : State) (p1 : Int32) (h0 : Heap) (n0 : Nat) (v : Option Value) (h : Heap) (L : List Loc) : Prop := ∃ z : Int32, v = some (.int z) ∧ Fr n0 L ∧ Keep h0 h [] ∧ (z = if p1 = 1 then 1 else if p1 = 2 then 4 else if p1 = 3 then 7 else 10)
set_option maxRecDepth 65536 in
set_option maxHeartbeats 40000000 in
theorem rm15 (l : Launch) (Z : State) (a0 : Array Value) (hw : ∀ d ∈ tables_1, d.before a0 Z = true) (ws : List Jvm.Cond) (p1 : Int32) (h0 : Heap) (n0 : Nat) (Z0 : n0 ≤ h0.size) :
    MetFree l (⟨"com/example/voce/voce/QuarterFirstMonthPinLaw", "expectedMonth", "(I)I"⟩ : MethodName) (head1 (Jvm.Cond.code (⟨"com/example/voce/voce/QuarterFirstMonthPinLaw", "expectedMonth", "(I)I"⟩ : MethodName) method_2_code 1 (some .int) :: ws) ({ frames := 0, cells := 0, slots := 0, locals := 0 } : Room)) (fun a U => a = #[(.int p1)] ∧ Z.Warmed39 U.vm ∧ U.heap = h0) (fun _ _ _ _ _ => True) (fun _ U o U' => ∃ v L, o = .returned v ∧ Q15 Z p1 h0 n0 v U'.heap L ∧ FrameEnd U o U' L ({ frames := 0, cells := 0, slots := 0, locals := 0 } : Room).cells ({ frames := 0, cells := 0, slots := 0, locals := 0 } : Room).slots) := by
  refine MetFree.of_bodySF (plainFor_of_name pn_com_example_voce_voce_QuarterFirstMonthPinLaw) hisR ?_
  intro p e s m args below meth c s₁ Bd hml0 hP hK
  obtain ⟨rfl, hZ, hH0⟩ := hP
  have hx := Bd.exec
  have hby := Bd.bytes
  have hml : c.maxLocals = 1 := hml0
  have hown : s.vm.findClass "com/example/voce/voce/QuarterFirstMonthPinLaw" = some m.cls := findClass_of_methodNamed Bd.named
  have hnm := (name_of_methodNamed Bd.named Bd.method).1
  have X0 : Stand p l e ({ frames := 0, cells := 0, slots := 0, locals := 0 } : Room) s m #[(.int p1)] below meth c s₁ [] 0 0 := Stand.of_body Bd
  have e0 : s₁.heap = h0 := by rw [← hH0, Bd.state]; rfl
  have N0 := Fr.nil n0
  refine own_cast (ef_15 m p1) ?_
  show own_Go p e below (fun o U' => ∃ v L, o = .returned v ∧ Q15 Z p1 h0 n0 v U'.heap L ∧ FrameEnd s o U' L ({ frames := 0, cells := 0, slots := 0, locals := 0 } : Room).cells ({ frames := 0, cells := 0, slots := 0, locals := 0 } : Room).slots) (s₁.setTop (mkF m 0 #[.val (.int p1)] []))
  refine own_via (fun _ => XS.iloadN X0.here hx rfl (hb hby d15_0) rfl) ?_
  show own_Go p e below _ (s₁.setTop (mkF m 1 #[.val (.int p1)] [(.int p1)]))
  refine own_via (fun _ => XS.iconst X0.here hx rfl (hb hby d15_1)) ?_
  show own_Go p e below _ (s₁.setTop (mkF m 2 #[.val (.int p1)] [(.int (1 : Int32)), (.int p1)]))
  by_cases h1 : p1 = (1 : Int32)
  · refine own_via (fun _ => XS.icmpNo X0.here hx rfl (hb hby d15_2) rfl (teq (h1 : p1 = (1 : Int32))).2) ?_
    show own_Go p e below _ (s₁.setTop (mkF m 5 #[.val (.int p1)] []))
    refine own_via (fun _ => XS.iconst X0.here hx rfl (hb hby d15_5)) ?_
    show own_Go p e below _ (s₁.setTop (mkF m 6 #[.val (.int p1)] [(.int (1 : Int32))]))
    exact own_retv X0 Bd.notSynchronized hx Bd.returns rfl (Or.inl ⟨rfl, (by simp), _, rfl⟩) (hb hby d15_6) (by decide) (by decide) (by rw [e0]; exact ⟨(1 : Int32), rfl, N0, (Keep.refl h0 []), (by simp [*])⟩)
  · refine own_via (fun _ => XS.icmpYes X0.here hx rfl (pc0 := 2) (pc' := 7) rfl (hb hby d15_2) rfl (feq (h1 : ¬ (p1 = (1 : Int32)))).2 (by decide) (by decide)) ?_
    show own_Go p e below _ (s₁.setTop (mkF m 7 #[.val (.int p1)] []))
    refine own_via (fun _ => XS.iloadN X0.here hx rfl (hb hby d15_7) rfl) ?_
    show own_Go p e below _ (s₁.setTop (mkF m 8 #[.val (.int p1)] [(.int p1)]))
    refine own_via (fun _ => XS.iconst X0.here hx rfl (hb hby d15_8)) ?_
    show own_Go p e below _ (s₁.setTop (mkF m 9 #[.val (.int p1)] [(.int (2 : Int32)), (.int p1)]))
    by_cases h2 : p1 = (2 : Int32)
    · refine own_via (fun _ => XS.icmpNo X0.here hx rfl (hb hby d15_9) rfl (teq (h2 : p1 = (2 : Int32))).2) ?_
      show own_Go p e below _ (s₁.setTop (mkF m 12 #[.val (.int p1)] []))
      refine own_via (fun _ => XS.iconst X0.here hx rfl (hb hby d15_12)) ?_
      show own_Go p e below _ (s₁.setTop (mkF m 13 #[.val (.int p1)] [(.int (4 : Int32))]))
      exact own_retv X0 Bd.notSynchronized hx Bd.returns rfl (Or.inl ⟨rfl, (by simp), _, rfl⟩) (hb hby d15_13) (by decide) (by decide) (by rw [e0]; exact ⟨(4 : Int32), rfl, N0, (Keep.refl h0 []), (by simp [*])⟩)
    · refine own_via (fun _ => XS.icmpYes X0.here hx rfl (pc0 := 9) (pc' := 14) rfl (hb hby d15_9) rfl (feq (h2 : ¬ (p1 = (2 : Int32)))).2 (by decide) (by decide)) ?_
      show own_Go p e below _ (s₁.setTop (mkF m 14 #[.val (.int p1)] []))
      refine own_via (fun _ => XS.iloadN X0.here hx rfl (hb hby d15_14) rfl) ?_
      show own_Go p e below _ (s₁.setTop (mkF m 15 #[.val (.int p1)] [(.int p1)]))
      refine own_via (fun _ => XS.iconst X0.here hx rfl (hb hby d15_15)) ?_
      show own_Go p e below _ (s₁.setTop (mkF m 16 #[.val (.int p1)] [(.int (3 : Int32)), (.int p1)]))
      by_cases h3 : p1 = (3 : Int32)
      · refine own_via (fun _ => XS.icmpNo X0.here hx rfl (hb hby d15_16) rfl (teq (h3 : p1 = (3 : Int32))).2) ?_
        show own_Go p e below _ (s₁.setTop (mkF m 19 #[.val (.int p1)] []))
        refine own_via (fun _ => XS.bipush X0.here hx rfl (hb hby d15_19)) ?_
        show own_Go p e below _ (s₁.setTop (mkF m 21 #[.val (.int p1)] [(.int (7 : Int32))]))
        exact own_retv X0 Bd.notSynchronized hx Bd.returns rfl (Or.inl ⟨rfl, (by simp), _, rfl⟩) (hb hby d15_21) (by decide) (by decide) (by rw [e0]; exact ⟨(7 : Int32), rfl, N0, (Keep.refl h0 []), (by simp [*])⟩)
      · refine own_via (fun _ => XS.icmpYes X0.here hx rfl (pc0 := 16) (pc' := 22) rfl (hb hby d15_16) rfl (feq (h3 : ¬ (p1 = (3 : Int32)))).2 (by decide) (by decide)) ?_
        show own_Go p e below _ (s₁.setTop (mkF m 22 #[.val (.int p1)] []))
        refine own_via (fun _ => XS.bipush X0.here hx rfl (hb hby d15_22)) ?_
        show own_Go p e below _ (s₁.setTop (mkF m 24 #[.val (.int p1)] [(.int (10 : Int32))]))
        exact own_retv X0 Bd.notSynchronized hx Bd.returns rfl (Or.inl ⟨rfl, (by simp), _, rfl⟩) (hb hby d15_24) (by decide) (by decide) (by rw [e0]; exact ⟨(10 : Int32), rfl, N0, (Keep.refl h0 []), (by simp [*])⟩)
theorem own_eqL {args : Array Value} {s : State} {a : Term} {n : Int64} (h : (Jvm.Cond.eq a (Jvm.Term.long n)).value args s none s [] = some true) : a.eval args s none [] s = some (.long n) := by
  obtain ⟨x, y, h1, h2, -, h3⟩ := cmp_v (Or.inl h)
  obtain rfl : Value.long n = y := Option.some.inj h2
  obtain ⟨q, rfl⟩ : ∃ q, x = .long q := h3
  have e := gotT (eq_L h1 h2) h
  rw [h1, e]
theorem pd_8 : parseMethodDescriptor "()Ljava/time/YearMonth;" = some ⟨[], some (.object "java/time/YearMonth")⟩ := by decide +kernel
theorem pd_9 : parseMethodDescriptor "()I" = some ⟨[], some .int⟩ := by decide +kernel
theorem pd_10 : parseMethodDescriptor "(I)I" = some ⟨[.int], some .int⟩ := by decide +kernel
theorem ef_0 (m : MethodId) (p1 : Int32) (p2 : Int32) : entryFrame m #[(.int p1), (.int p2)] maxLocals = mkF m 0 #[.val (.int p1), .val (.int p2), .unset, .unset, .unset, .unset] [] := by first | (simp [entryFrame, mkF, argsToLocals, Value.category, maxLocals]; done) | rfl
def Q0 (Z : State) (p1 : Int32) (p2 : Int32) (yy : Addr) (yr : Addr) (my : Addr) (mr : Addr) (h0 : Heap) (n0 : Nat) (v : Option Value) (h : Heap) (L : List Loc) : Prop := v = some (.int (1 : Int32)) ∧ Fr n0 L ∧ Keep h0 h []
set_option maxRecDepth 65536 in
set_option maxHeartbeats 40000000 in
theorem rm0 (l : Launch) (Z : State) (a0 : Array Value) (hw : ∀ d ∈ tables_1, d.before a0 Z = true) (ws : List Jvm.Cond) (p1 : Int32) (p2 : Int32) (yy : Addr) (yr : Addr) (my : Addr) (mr : Addr) (h0 : Heap) (n0 : Nat) (Z0 : n0 ≤ h0.size) (O0 : Old Z n0 h0) (Syy : Sta Z Z.heap "java/time/temporal/ChronoField" "YEAR" "Ljava/time/temporal/ChronoField;" (.ref yy)) (Eyy : Exa Z Z.heap yy "java/time/temporal/ChronoField") (Fyy : Fld Z Z.heap yy "java/time/temporal/ChronoField" "range" "Ljava/time/temporal/ValueRange;" (.ref yr)) (Eyr : Exa Z Z.heap yr "java/time/temporal/ValueRange") (Fayr : Fld Z Z.heap yr "java/time/temporal/ValueRange" "minSmallest" "J" (.long (-999999999 : Int64))) (Fbyr : Fld Z Z.heap yr "java/time/temporal/ValueRange" "maxLargest" "J" (.long (999999999 : Int64))) (Smy : Sta Z Z.heap "java/time/temporal/ChronoField" "MONTH_OF_YEAR" "Ljava/time/temporal/ChronoField;" (.ref my)) (Emy : Exa Z Z.heap my "java/time/temporal/ChronoField") (Fmy : Fld Z Z.heap my "java/time/temporal/ChronoField" "range" "Ljava/time/temporal/ValueRange;" (.ref mr)) (Emr : Exa Z Z.heap mr "java/time/temporal/ValueRange") (Famr : Fld Z Z.heap mr "java/time/temporal/ValueRange" "minSmallest" "J" (.long (1 : Int64))) (Fbmr : Fld Z Z.heap mr "java/time/temporal/ValueRange" "maxLargest" "J" (.long (12 : Int64))) :
    MetFree l x (head1 (Jvm.Cond.code x code maxLocals ret :: ws) room_1) (fun a U => a = #[(.int p1), (.int p2)] ∧ Z.Warmed39 U.vm ∧ U.heap = h0) (fun _ _ _ _ _ => True) (fun _ U o U' => ∃ v L, o = .returned v ∧ Q0 Z p1 p2 yy yr my mr h0 n0 v U'.heap L ∧ FrameEnd U o U' L room_1.cells room_1.slots) := by
  refine MetFree.of_bodySF (plainFor_of_name pn_com_example_voce_voce_QuarterFirstMonthPinLaw) hisR ?_
  intro p e s m args below meth c s₁ Bd hml0 hP hK
  obtain ⟨rfl, hZ, hH0⟩ := hP
  have hx := Bd.exec
  have hby := Bd.bytes
  have hml : c.maxLocals = 6 := hml0
  have hown : s.vm.findClass "com/example/voce/voce/QuarterFirstMonthPinLaw" = some m.cls := findClass_of_methodNamed Bd.named
  have hnm := (name_of_methodNamed Bd.named Bd.method).1
  have X0 : Stand p l e room_1 s m #[(.int p1), (.int p2)] below meth c s₁ [] 0 0 := Stand.of_body Bd
  have e0 : s₁.heap = h0 := by rw [← hH0, Bd.state]; rfl
  have N0 := Fr.nil n0
  refine own_cast (ef_0 m p1 p2) ?_
  show own_Go p e below (fun o U' => ∃ v L, o = .returned v ∧ Q0 Z p1 p2 yy yr my mr h0 n0 v U'.heap L ∧ FrameEnd s o U' L room_1.cells room_1.slots) (s₁.setTop (mkF m 0 #[.val (.int p1), .val (.int p2), .unset, .unset, .unset, .unset] []))
  refine own_via (fun _ => XS.iloadN X0.here hx rfl (hb hby at_0) rfl) ?_
  show own_Go p e below _ (s₁.setTop (mkF m 1 #[.val (.int p1), .val (.int p2), .unset, .unset, .unset, .unset] [(.int p1)]))
  refine own_via (X0.ldcInt hx hown (mvT hZ (own_w hw 0 rfl)) (g := (mkF m 1 #[.val (.int p1), .val (.int p2), .unset, .unset, .unset, .unset] [(.int p1)])) rfl (hb hby at_1)) ?_
  show own_Go p e below _ (s₁.setTop (mkF m 3 #[.val (.int p1), .val (.int p2), .unset, .unset, .unset, .unset] [(.int (1000000000 : Int32)), (.int p1)]))
  refine own_via (fun _ => iremM (g := (mkF m 3 #[.val (.int p1), .val (.int p2), .unset, .unset, .unset, .unset] [(.int (1000000000 : Int32)), (.int p1)])) X0 hx rfl (hb hby at_3) rfl (by decide)) ?_
  show own_Go p e below _ (s₁.setTop (mkF m 4 #[.val (.int p1), .val (.int p2), .unset, .unset, .unset, .unset] [(.int (p1 % (1000000000 : Int32)))]))
  refine own_via (fun _ => XS.istoreN X0.here hx rfl (hb hby at_4) rfl (l' := #[.val (.int p1), .val (.int p2), .val (.int (p1 % (1000000000 : Int32))), .unset, .unset, .unset]) rfl) ?_
  show own_Go p e below _ (s₁.setTop (mkF m 5 #[.val (.int p1), .val (.int p2), .val (.int (p1 % (1000000000 : Int32))), .unset, .unset, .unset] []))
  refine own_via (fun _ => XS.iloadN X0.here hx rfl (hb hby at_5) rfl) ?_
  show own_Go p e below _ (s₁.setTop (mkF m 6 #[.val (.int p1), .val (.int p2), .val (.int (p1 % (1000000000 : Int32))), .unset, .unset, .unset] [(.int p2)]))
  refine own_via (fun _ => XS.iconst X0.here hx rfl (hb hby at_6)) ?_
  show own_Go p e below _ (s₁.setTop (mkF m 7 #[.val (.int p1), .val (.int p2), .val (.int (p1 % (1000000000 : Int32))), .unset, .unset, .unset] [(.int (3 : Int32)), (.int p2)]))
  refine own_via (fun _ => XS.iand X0.here hx rfl (hb hby at_7) rfl) ?_
  show own_Go p e below _ (s₁.setTop (mkF m 8 #[.val (.int p1), .val (.int p2), .val (.int (p1 % (1000000000 : Int32))), .unset, .unset, .unset] [(.int (p2 &&& (3 : Int32)))]))
  refine own_via (fun _ => XS.iconst X0.here hx rfl (hb hby at_8)) ?_
  show own_Go p e below _ (s₁.setTop (mkF m 9 #[.val (.int p1), .val (.int p2), .val (.int (p1 % (1000000000 : Int32))), .unset, .unset, .unset] [(.int (1 : Int32)), (.int (p2 &&& (3 : Int32)))]))
  refine own_via (fun _ => XS.iadd X0.here hx rfl (hb hby at_9) rfl) ?_
  show own_Go p e below _ (s₁.setTop (mkF m 10 #[.val (.int p1), .val (.int p2), .val (.int (p1 % (1000000000 : Int32))), .unset, .unset, .unset] [(.int ((p2 &&& (3 : Int32)) + (1 : Int32)))]))
  refine own_via (fun _ => XS.istoreN X0.here hx rfl (hb hby at_10) rfl (l' := #[.val (.int p1), .val (.int p2), .val (.int (p1 % (1000000000 : Int32))), .val (.int ((p2 &&& (3 : Int32)) + (1 : Int32))), .unset, .unset]) rfl) ?_
  show own_Go p e below _ (s₁.setTop (mkF m 11 #[.val (.int p1), .val (.int p2), .val (.int (p1 % (1000000000 : Int32))), .val (.int ((p2 &&& (3 : Int32)) + (1 : Int32))), .unset, .unset] []))
  obtain ⟨T_1, h_1, X_1, e_1, E_1, A_1, D_1, -, st_1⟩ := newO X0 hx hZ hown (own_w hw 1 rfl) (own_w hw 2 rfl) (own_w hw 3 rfl) e0 (g := (mkF m 11 #[.val (.int p1), .val (.int p2), .val (.int (p1 % (1000000000 : Int32))), .val (.int ((p2 &&& (3 : Int32)) + (1 : Int32))), .unset, .unset] [])) rfl (hb hby at_11) (by decide) (by decide)
  obtain ⟨b_1, g_1⟩ : ∃ z, z = h0.size := ⟨_, rfl⟩
  rw [← g_1] at A_1 D_1 st_1
  have F_2 : Fld Z h_1 b_1 "com/example/voce/voce/Quarter" "year" "I" (.int (0 : Int32)) := D_1 (Or.inr (own_w hw 16 rfl)) (ty := .int) (by decide)
  have F_3 : Fld Z h_1 b_1 "com/example/voce/voce/Quarter" "number" "I" (.int (0 : Int32)) := D_1 (Or.inr (own_w hw 18 rfl)) (ty := .int) (by decide)
  refine own_via st_1 ?_
  show own_Go p e below _ (T_1.setTop (mkF m 14 #[.val (.int p1), .val (.int p2), .val (.int (p1 % (1000000000 : Int32))), .val (.int ((p2 &&& (3 : Int32)) + (1 : Int32))), .unset, .unset] [(.ref b_1)]))
  refine own_via (fun _ => XS.dup X_1.here hx rfl (hb hby at_14) rfl rfl) ?_
  show own_Go p e below _ (T_1.setTop (mkF m 15 #[.val (.int p1), .val (.int p2), .val (.int (p1 % (1000000000 : Int32))), .val (.int ((p2 &&& (3 : Int32)) + (1 : Int32))), .unset, .unset] [(.ref b_1), (.ref b_1)]))
  refine own_via (fun _ => XS.iloadN X_1.here hx rfl (hb hby at_15) rfl) ?_
  show own_Go p e below _ (T_1.setTop (mkF m 16 #[.val (.int p1), .val (.int p2), .val (.int (p1 % (1000000000 : Int32))), .val (.int ((p2 &&& (3 : Int32)) + (1 : Int32))), .unset, .unset] [(.int (p1 % (1000000000 : Int32))), (.ref b_1), (.ref b_1)]))
  refine own_via (fun _ => XS.iloadN X_1.here hx rfl (hb hby at_16) rfl) ?_
  show own_Go p e below _ (T_1.setTop (mkF m 17 #[.val (.int p1), .val (.int p2), .val (.int (p1 % (1000000000 : Int32))), .val (.int ((p2 &&& (3 : Int32)) + (1 : Int32))), .unset, .unset] [(.int ((p2 &&& (3 : Int32)) + (1 : Int32))), (.int (p1 % (1000000000 : Int32))), (.ref b_1), (.ref b_1)]))
  have K_4 : Keep h0 h_1 [] := (Keep.refl h0 []).ext E_1
  obtain ⟨_, _, ⟨T_5, L_5, k_5, n_5⟩, -, X_5, ⟨Lc_5, hQ_5, l_5, y_5, z_5⟩, st_5⟩ := X_1.specialBack hx (y := (⟨"com/example/voce/voce/Quarter", "<init>", "(II)V"⟩ : MethodName)) rfl hown (mvT hZ (own_w hw 4 rfl)) (mvT hZ (own_w hw 5 rfl)) (mvT hZ (own_w hw 6 rfl)) (by decide) (backOf (W := 1) (rm1 l Z a0 hw [] b_1 (p1 % (1000000000 : Int32)) ((p2 &&& (3 : Int32)) + (1 : Int32)) h_1 n0 (Nat.le_trans Z0 K_4.1) A_1 F_2 F_3 (Nat.le_trans Z0 (Nat.le_of_eq g_1.symm))) hZ (own_w hw 6 rfl) (own_w hw 3 rfl) (by decide) (by decide)) (g := (mkF m 17 #[.val (.int p1), .val (.int p2), .val (.int (p1 % (1000000000 : Int32))), .val (.int ((p2 &&& (3 : Int32)) + (1 : Int32))), .unset, .unset] [(.int ((p2 &&& (3 : Int32)) + (1 : Int32))), (.int (p1 % (1000000000 : Int32))), (.ref b_1), (.ref b_1)])) rfl (by rw [hml]; rfl) (Steps.refl _) (a := b_1) (argsL := [(.int (p1 % (1000000000 : Int32))), (.int ((p2 &&& (3 : Int32)) + (1 : Int32)))]) (rest := [(.ref b_1)]) (lenOf pd_6 rfl) rfl (by show 2 * 0 + _ ≤ _; exact Nat.le_of_eq rfl) (hb hby at_17) (fun _ _ => ⟨rfl, e_1, (by decide : 1 + 0 ≤ _), (by decide : 2 + 0 ≤ _)⟩)
  dsimp only [Pt.U, Pt.locs, Pt.cells, Pt.slots] at X_5 l_5 y_5 z_5 st_5 hQ_5
  subst l_5 y_5 z_5
  obtain ⟨rfl, Nq_5, K_5q, q_5_0, q_5_1⟩ := hQ_5
  have N_5 := Fr.app N0 Nq_5
  refine own_via (fun _ k => st_5.trans k) ?_
  show own_Go p e below _ (T_5.setTop (mkF m 20 #[.val (.int p1), .val (.int p2), .val (.int (p1 % (1000000000 : Int32))), .val (.int ((p2 &&& (3 : Int32)) + (1 : Int32))), .unset, .unset] [(.ref b_1)]))
  refine own_via (fun _ => XS.astore X_5.here hx rfl (hb hby at_20) rfl rfl (l' := #[.val (.int p1), .val (.int p2), .val (.int (p1 % (1000000000 : Int32))), .val (.int ((p2 &&& (3 : Int32)) + (1 : Int32))), .val (.ref b_1), .unset]) rfl) ?_
  show own_Go p e below _ (T_5.setTop (mkF m 22 #[.val (.int p1), .val (.int p2), .val (.int (p1 % (1000000000 : Int32))), .val (.int ((p2 &&& (3 : Int32)) + (1 : Int32))), .val (.ref b_1), .unset] []))
  refine own_via (fun _ => XS.aload X_5.here hx rfl (hb hby at_22) rfl rfl) ?_
  show own_Go p e below _ (T_5.setTop (mkF m 24 #[.val (.int p1), .val (.int p2), .val (.int (p1 % (1000000000 : Int32))), .val (.int ((p2 &&& (3 : Int32)) + (1 : Int32))), .val (.ref b_1), .unset] [(.ref b_1)]))
  have K_6 : Keep h0 T_5.heap [] := Keep.trans (ws := []) K_4 K_5q (allS (Or.inr (Nat.le_of_eq g_1.symm)) all0)
  have K_8 : Keep h_1 T_5.heap [b_1] := Keep.trans (ws := [b_1]) (own_keep_mono (Keep.refl h_1 []) (by simp)) K_5q (allS (Or.inl (List.mem_of_getElem? (i := 0) rfl)) all0)
  obtain ⟨cq_7, kq_7, q_7a, q_7b, q_7c⟩ := isOf hZ rfl (A_1.keep K_8)
  obtain ⟨_, _, ⟨T_7, L_7, k_7, n_7⟩, -, X_7, ⟨Lc_7, hQ_7, l_7, y_7, z_7⟩, st_7⟩ := X_5.virtualBack hx (y := (⟨"com/example/voce/voce/Quarter", "firstMonth", "()Ljava/time/YearMonth;"⟩ : MethodName)) (z := (⟨"com/example/voce/voce/Quarter", "firstMonth", "()Ljava/time/YearMonth;"⟩ : MethodName)) hown (mvT hZ (own_w hw 19 rfl)) (mvT hZ (own_w hw 20 rfl)) (notFace_of_selects (args := #[]) (mvT hZ (own_w hw 22 rfl))) (mvT hZ (own_w hw 22 rfl)) (mvT hZ (own_w hw 21 rfl)) (by decide) (backOf (W := 0) (rm4 l Z a0 hw [] b_1 (p1 % (1000000000 : Int32)) ((p2 &&& (3 : Int32)) + (1 : Int32)) yy yr my mr T_5.heap n0 (Nat.le_trans Z0 K_6.1) (O0.keep K_6 all0) q_5_0 q_5_1 Syy Eyy Fyy Eyr Fayr Fbyr Smy Emy Fmy Emr Famr Fbmr ((own_rem p1).1) ((own_rem p1).2) ((own_month p2).1) ((own_month p2).2)) hZ (own_w hw 23 rfl) (own_w hw 3 rfl) (by decide) (by decide)) q_7a q_7c (g := (mkF m 24 #[.val (.int p1), .val (.int p2), .val (.int (p1 % (1000000000 : Int32))), .val (.int ((p2 &&& (3 : Int32)) + (1 : Int32))), .val (.ref b_1), .unset] [(.ref b_1)])) rfl (by rw [hml]; rfl) (Steps.refl _) (argsL := []) (rest := []) (lenOf pd_8 rfl) rfl (by show 2 * 0 + _ ≤ _; exact Nat.le_of_eq rfl) (hb hby at_24) (fun _ _ => ⟨rfl, rfl, (by decide : 1 + 1 ≤ _), (by decide : 2 + 2 ≤ _)⟩)
  dsimp only [Pt.U, Pt.locs, Pt.cells, Pt.slots] at X_7 l_7 y_7 z_7 st_7 hQ_7
  subst l_7 y_7 z_7
  obtain ⟨r_9, rfl, Nq_7, K_7q, q_7_0, q_7_1, q_7_2, q_7_3⟩ := hQ_7
  have N_7 := Fr.app N_5 Nq_7
  refine own_via (fun _ k => st_7.trans k) ?_
  show own_Go p e below _ (T_7.setTop (mkF m 27 #[.val (.int p1), .val (.int p2), .val (.int (p1 % (1000000000 : Int32))), .val (.int ((p2 &&& (3 : Int32)) + (1 : Int32))), .val (.ref b_1), .unset] [(.ref r_9)]))
  refine own_via (fun _ => XS.astore X_7.here hx rfl (hb hby at_27) rfl rfl (l' := #[.val (.int p1), .val (.int p2), .val (.int (p1 % (1000000000 : Int32))), .val (.int ((p2 &&& (3 : Int32)) + (1 : Int32))), .val (.ref b_1), .val (.ref r_9)]) rfl) ?_
  show own_Go p e below _ (T_7.setTop (mkF m 29 #[.val (.int p1), .val (.int p2), .val (.int (p1 % (1000000000 : Int32))), .val (.int ((p2 &&& (3 : Int32)) + (1 : Int32))), .val (.ref b_1), .val (.ref r_9)] []))
  refine own_via (fun _ => XS.aload X_7.here hx rfl (hb hby at_29) rfl rfl) ?_
  show own_Go p e below _ (T_7.setTop (mkF m 31 #[.val (.int p1), .val (.int p2), .val (.int (p1 % (1000000000 : Int32))), .val (.int ((p2 &&& (3 : Int32)) + (1 : Int32))), .val (.ref b_1), .val (.ref r_9)] [(.ref r_9)]))
  have K_10 : Keep h0 T_7.heap [] := Keep.trans (ws := []) K_6 K_7q all0
  obtain ⟨cq_11, kq_11, q_11a, q_11b, q_11c⟩ := isOf hZ rfl q_7_1
  obtain ⟨_, _, ⟨T_11, L_11, k_11, n_11⟩, -, X_11, ⟨Lc_11, hQ_11, l_11, y_11, z_11⟩, st_11⟩ := X_7.virtualBack hx (y := (⟨"java/time/YearMonth", "getYear", "()I"⟩ : MethodName)) (z := (⟨"java/time/YearMonth", "getYear", "()I"⟩ : MethodName)) hown (mvT hZ (own_w hw 79 rfl)) (mvT hZ (own_w hw 80 rfl)) (notFace_of_selects (args := #[]) (mvT hZ (own_w hw 82 rfl))) (mvT hZ (own_w hw 82 rfl)) (mvT hZ (own_w hw 81 rfl)) (by decide) (backOf (W := 0) (rm13 l Z a0 hw [] r_9 (p1 % (1000000000 : Int32)) T_7.heap n0 (Nat.le_trans Z0 K_10.1) q_7_2) hZ (own_w hw 83 rfl) (own_w hw 26 rfl) (by decide) (by decide)) q_11a q_11c (g := (mkF m 31 #[.val (.int p1), .val (.int p2), .val (.int (p1 % (1000000000 : Int32))), .val (.int ((p2 &&& (3 : Int32)) + (1 : Int32))), .val (.ref b_1), .val (.ref r_9)] [(.ref r_9)])) rfl (by rw [hml]; rfl) (Steps.refl _) (argsL := []) (rest := []) (lenOf pd_9 rfl) rfl (by show 2 * 0 + _ ≤ _; exact Nat.le_of_eq rfl) (hb hby at_31) (fun _ _ => ⟨rfl, rfl, (by decide : 2 + 0 ≤ _), (by decide : 4 + 0 ≤ _)⟩)
  dsimp only [Pt.U, Pt.locs, Pt.cells, Pt.slots] at X_11 l_11 y_11 z_11 st_11 hQ_11
  subst l_11 y_11 z_11
  obtain ⟨rfl, Nq_11, K_11q⟩ := hQ_11
  have N_11 := Fr.app N_7 Nq_11
  refine own_via (fun _ k => st_11.trans k) ?_
  show own_Go p e below _ (T_11.setTop (mkF m 34 #[.val (.int p1), .val (.int p2), .val (.int (p1 % (1000000000 : Int32))), .val (.int ((p2 &&& (3 : Int32)) + (1 : Int32))), .val (.ref b_1), .val (.ref r_9)] [(.int (p1 % (1000000000 : Int32)))]))
  refine own_via (fun _ => XS.iloadN X_11.here hx rfl (hb hby at_34) rfl) ?_
  show own_Go p e below _ (T_11.setTop (mkF m 35 #[.val (.int p1), .val (.int p2), .val (.int (p1 % (1000000000 : Int32))), .val (.int ((p2 &&& (3 : Int32)) + (1 : Int32))), .val (.ref b_1), .val (.ref r_9)] [(.int (p1 % (1000000000 : Int32))), (.int (p1 % (1000000000 : Int32)))]))
  refine own_via (fun _ => XS.icmpNo X_11.here hx rfl (hb hby at_35) rfl (teq (rfl : (p1 % (1000000000 : Int32)) = (p1 % (1000000000 : Int32)))).2) ?_
  show own_Go p e below _ (T_11.setTop (mkF m 38 #[.val (.int p1), .val (.int p2), .val (.int (p1 % (1000000000 : Int32))), .val (.int ((p2 &&& (3 : Int32)) + (1 : Int32))), .val (.ref b_1), .val (.ref r_9)] []))
  refine own_via (fun _ => XS.aload X_11.here hx rfl (hb hby at_38) rfl rfl) ?_
  show own_Go p e below _ (T_11.setTop (mkF m 40 #[.val (.int p1), .val (.int p2), .val (.int (p1 % (1000000000 : Int32))), .val (.int ((p2 &&& (3 : Int32)) + (1 : Int32))), .val (.ref b_1), .val (.ref r_9)] [(.ref r_9)]))
  have K_12 : Keep T_7.heap T_11.heap [] := Keep.trans (ws := []) (Keep.refl T_7.heap []) K_11q all0
  have K_13 : Keep h0 T_11.heap [] := Keep.trans (ws := []) K_10 K_11q all0
  obtain ⟨cq_14, kq_14, q_14a, q_14b, q_14c⟩ := isOf hZ rfl (q_7_1.keep K_12)
  obtain ⟨_, _, ⟨T_14, L_14, k_14, n_14⟩, -, X_14, ⟨Lc_14, hQ_14, l_14, y_14, z_14⟩, st_14⟩ := X_11.virtualBack hx (y := (⟨"java/time/YearMonth", "getMonthValue", "()I"⟩ : MethodName)) (z := (⟨"java/time/YearMonth", "getMonthValue", "()I"⟩ : MethodName)) hown (mvT hZ (own_w hw 84 rfl)) (mvT hZ (own_w hw 85 rfl)) (notFace_of_selects (args := #[]) (mvT hZ (own_w hw 87 rfl))) (mvT hZ (own_w hw 87 rfl)) (mvT hZ (own_w hw 86 rfl)) (by decide) (backOf (W := 0) (rm14 l Z a0 hw [] r_9 (((((p2 &&& (3 : Int32)) + (1 : Int32)) - 1) * 3) + 1) T_11.heap n0 (Nat.le_trans Z0 K_13.1) (q_7_3.keep K_12 nin0)) hZ (own_w hw 88 rfl) (own_w hw 26 rfl) (by decide) (by decide)) q_14a q_14c (g := (mkF m 40 #[.val (.int p1), .val (.int p2), .val (.int (p1 % (1000000000 : Int32))), .val (.int ((p2 &&& (3 : Int32)) + (1 : Int32))), .val (.ref b_1), .val (.ref r_9)] [(.ref r_9)])) rfl (by rw [hml]; rfl) (Steps.refl _) (argsL := []) (rest := []) (lenOf pd_9 rfl) rfl (by show 2 * 0 + _ ≤ _; exact Nat.le_of_eq rfl) (hb hby at_40) (fun _ _ => ⟨rfl, rfl, (by decide : 2 + 0 ≤ _), (by decide : 4 + 0 ≤ _)⟩)
  dsimp only [Pt.U, Pt.locs, Pt.cells, Pt.slots] at X_14 l_14 y_14 z_14 st_14 hQ_14
  subst l_14 y_14 z_14
  obtain ⟨rfl, Nq_14, K_14q⟩ := hQ_14
  have N_14 := Fr.app N_11 Nq_14
  refine own_via (fun _ k => st_14.trans k) ?_
  show own_Go p e below _ (T_14.setTop (mkF m 43 #[.val (.int p1), .val (.int p2), .val (.int (p1 % (1000000000 : Int32))), .val (.int ((p2 &&& (3 : Int32)) + (1 : Int32))), .val (.ref b_1), .val (.ref r_9)] [(.int (((((p2 &&& (3 : Int32)) + (1 : Int32)) - 1) * 3) + 1))]))
  refine own_via (fun _ => XS.iloadN X_14.here hx rfl (hb hby at_43) rfl) ?_
  show own_Go p e below _ (T_14.setTop (mkF m 44 #[.val (.int p1), .val (.int p2), .val (.int (p1 % (1000000000 : Int32))), .val (.int ((p2 &&& (3 : Int32)) + (1 : Int32))), .val (.ref b_1), .val (.ref r_9)] [(.int ((p2 &&& (3 : Int32)) + (1 : Int32))), (.int (((((p2 &&& (3 : Int32)) + (1 : Int32)) - 1) * 3) + 1))]))
  have K_15 : Keep h0 T_14.heap [] := Keep.trans (ws := []) K_13 K_14q all0
  obtain ⟨_, _, ⟨T_16, L_16, k_16, n_16⟩, -, X_16, ⟨Lc_16, hQ_16, l_16, y_16, z_16⟩, st_16⟩ := Jvm.LawKit.callS X_14 hx (y := (⟨"com/example/voce/voce/QuarterFirstMonthPinLaw", "expectedMonth", "(I)I"⟩ : MethodName)) hown (mvT hZ (own_w hw 89 rfl)) (mvT hZ (own_w hw 90 rfl)) (mvT hZ (own_w hw 91 rfl)) (mvT hZ (own_w hw 92 rfl)) (by decide) (backOf (W := 1) (rm15 l Z a0 hw [] ((p2 &&& (3 : Int32)) + (1 : Int32)) T_14.heap n0 (Nat.le_trans Z0 K_15.1) ) hZ (own_w hw 92 rfl) (own_w hw 91 rfl) (by decide) (by decide)) (g := (mkF m 44 #[.val (.int p1), .val (.int p2), .val (.int (p1 % (1000000000 : Int32))), .val (.int ((p2 &&& (3 : Int32)) + (1 : Int32))), .val (.ref b_1), .val (.ref r_9)] [(.int ((p2 &&& (3 : Int32)) + (1 : Int32))), (.int (((((p2 &&& (3 : Int32)) + (1 : Int32)) - 1) * 3) + 1))])) rfl (by rw [hml]; rfl) (argsL := [(.int ((p2 &&& (3 : Int32)) + (1 : Int32)))]) (rest := [(.int (((((p2 &&& (3 : Int32)) + (1 : Int32)) - 1) * 3) + 1))]) (lenOf pd_10 rfl) rfl (by show 2 * 0 + _ ≤ _; exact Nat.le_of_eq rfl) (hb hby at_44) (fun _ _ => ⟨rfl, rfl, (by decide : 2 + 0 ≤ _), (by decide : 4 + 0 ≤ _)⟩)
  dsimp only [Pt.U, Pt.locs, Pt.cells, Pt.slots] at X_16 l_16 y_16 z_16 st_16 hQ_16
  subst l_16 y_16 z_16
  obtain ⟨i_17, rfl, Nq_16, K_16q, q_16_0⟩ := hQ_16
  have N_16 := Fr.app N_14 Nq_16
  refine own_via st_16 ?_
  show own_Go p e below _ (T_16.setTop (mkF m 47 #[.val (.int p1), .val (.int p2), .val (.int (p1 % (1000000000 : Int32))), .val (.int ((p2 &&& (3 : Int32)) + (1 : Int32))), .val (.ref b_1), .val (.ref r_9)] [(.int i_17), (.int (((((p2 &&& (3 : Int32)) + (1 : Int32)) - 1) * 3) + 1))]))
  refine own_via (fun _ => XS.icmpNo X_16.here hx rfl (hb hby at_47) rfl (teq (own_fin _ _ q_16_0 : (((((p2 &&& (3 : Int32)) + (1 : Int32)) - 1) * 3) + 1) = i_17)).2) ?_
  show own_Go p e below _ (T_16.setTop (mkF m 50 #[.val (.int p1), .val (.int p2), .val (.int (p1 % (1000000000 : Int32))), .val (.int ((p2 &&& (3 : Int32)) + (1 : Int32))), .val (.ref b_1), .val (.ref r_9)] []))
  refine own_via (fun _ => XS.iconst X_16.here hx rfl (hb hby at_50)) ?_
  show own_Go p e below _ (T_16.setTop (mkF m 51 #[.val (.int p1), .val (.int p2), .val (.int (p1 % (1000000000 : Int32))), .val (.int ((p2 &&& (3 : Int32)) + (1 : Int32))), .val (.ref b_1), .val (.ref r_9)] [(.int (1 : Int32))]))
  refine own_via (fun _ => XS.goto X_16.here hx rfl (pc0 := 51) (pc' := 55) rfl (hb hby at_51) (by decide) (by decide)) ?_
  show own_Go p e below _ (T_16.setTop (mkF m 55 #[.val (.int p1), .val (.int p2), .val (.int (p1 % (1000000000 : Int32))), .val (.int ((p2 &&& (3 : Int32)) + (1 : Int32))), .val (.ref b_1), .val (.ref r_9)] [(.int (1 : Int32))]))
  have K_18 : Keep h0 T_16.heap [] := Keep.trans (ws := []) K_15 K_16q all0
  exact own_retv X_16 Bd.notSynchronized hx Bd.returns rfl (Or.inl ⟨rfl, (by simp), _, rfl⟩) (hb hby at_55) (by decide) (by decide) ⟨rfl, N_16, K_18⟩
set_option maxRecDepth 65536 in
set_option maxHeartbeats 40000000 in
theorem comes_1 {Post : Tables → Env → Array Value → State → Outcome → State → Prop} (hpost : ∀ tb e args s v u, (limb_1_1.after args s (.returned v) u = true ∧ limb_1_2.after args s (.returned v) u = true ∧ True) → FrameEnd s (.returned v) u (Jvm.fieldLocs frame_1_writes args s ++ Jvm.arrayLocs frame_1_arrays args s ++ Jvm.staticLocs frame_1_statics s) 16 128 → Post tb e args s (.returned v) u) :
    ArmFor flags0 classFile x code maxLocals ret World_1 tables_1 room_1 Calls_1 rest_1 Pre_1 Post := by
  intro l hfl _ _ p e ha hc hk s m args below hf hA hF happ hP
  obtain ⟨hcalls, hrest, hpre⟩ := hP
  obtain ⟨-, -, -, hnamed, -, -, -, hat⟩ := (Spec.applies_iff hf).mp happ
  obtain ⟨hg, hn⟩ := and_e (Cond.before_iff.mp (show (Jvm.Cond.and given_1 narrow_1).before args s = true from hpre))
  obtain ⟨ga0, gb0⟩ := and_e hg
  obtain ⟨ga1, gb1⟩ := and_e gb0
  obtain ⟨w0, w1, rfl⟩ : ∃ w0 w1 : Value, args = #[w0, w1] := by
    have hs : args.size = 2 := by simpa [Cond.value, given_1] using ga0
    obtain ⟨L⟩ := args
    match L, hs with
    | [w0, w1], _ => exact ⟨w0, w1, rfl⟩
  have hw := fun d (hd : d ∈ tables_1) => atoms_spec (ws := Jvm.Cond.code x code maxLocals ret :: tables_1) hat d (List.mem_cons_of_mem _ hd)
  have hfit : Fit s := fun {y c} hc i hi => by
    obtain ⟨ha, rfl⟩ := Array.getElem?_eq_some_iff.mp hc
    have q := List.all_eq_true.mp ((Array.all_eq_true_iff_forall_mem.mp hF) _ (Array.getElem_mem ha)) i (List.mem_range.mpr hi)
    simpa [Array.getElem?_eq_getElem hi] using q
  obtain ⟨i0, ei0⟩ := is_v ga1
  obtain rfl : w0 = (.int i0) := Option.some.inj ei0
  obtain ⟨i1, ei1⟩ := is_v gb1
  obtain rfl : w1 = (.int i1) := Option.some.inj ei1
  obtain ⟨hsets, hown0⟩ := atoms_of _ (rest_1_c_eq ▸ (show rest_1_c.before _ s = true from hrest))
  obtain ⟨yy, tyy⟩ := exa_v (Cond.before_iff.mp (hsets _ (List.mem_of_getElem? (i := 6) rfl)))
  have Syy := Sta.start tyy (Or.inl (hsets _ (List.mem_of_getElem? (i := 1) rfl)))
  have Eyy := Exa.start tyy (Cond.before_iff.mp (hsets _ (List.mem_of_getElem? (i := 6) rfl)))
  obtain ⟨yr, tyr⟩ := exa_v (Cond.before_iff.mp (hsets _ (List.mem_of_getElem? (i := 22) rfl)))
  have Fyy := Fld.start ((fld_at tyy).symm.trans tyr)
  have Eyr := Exa.start tyr (Cond.before_iff.mp (hsets _ (List.mem_of_getElem? (i := 22) rfl)))
  have Fayr := Fld.start ((fld_at tyr).symm.trans (own_eqL (Cond.before_iff.mp (hsets _ (List.mem_of_getElem? (i := 23) rfl)))))
  have Fbyr := Fld.start ((fld_at tyr).symm.trans (own_eqL (Cond.before_iff.mp (hsets _ (List.mem_of_getElem? (i := 26) rfl)))))
  obtain ⟨my, tmy⟩ := exa_v (Cond.before_iff.mp (hsets _ (List.mem_of_getElem? (i := 34) rfl)))
  have Smy := Sta.start tmy (Or.inl (hsets _ (List.mem_of_getElem? (i := 29) rfl)))
  have Emy := Exa.start tmy (Cond.before_iff.mp (hsets _ (List.mem_of_getElem? (i := 34) rfl)))
  obtain ⟨mr, tmr⟩ := exa_v (Cond.before_iff.mp (hsets _ (List.mem_of_getElem? (i := 50) rfl)))
  have Fmy := Fld.start ((fld_at tmy).symm.trans tmr)
  have Emr := Exa.start tmr (Cond.before_iff.mp (hsets _ (List.mem_of_getElem? (i := 50) rfl)))
  have Famr := Fld.start ((fld_at tmr).symm.trans (own_eqL (Cond.before_iff.mp (hsets _ (List.mem_of_getElem? (i := 51) rfl)))))
  have Fbmr := Fld.start ((fld_at tmr).symm.trans (own_eqL (Cond.before_iff.mp (hsets _ (List.mem_of_getElem? (i := 54) rfl)))))
  obtain ⟨n, o, h1, h2, h3, _, L, rfl, ⟨rfl, N, -⟩, hq⟩ := rm0 l s _ hw tables_1 i0 i1 yy yr my mr s.heap s.heap.size (Nat.le_refl _) (Old.start s) Syy Eyy Fyy Eyr Fayr Fbyr Smy Emy Fmy Emr Famr Fbmr p e ha hc hk s m _ below hf ((Spec.applies_iff_loose hf).mp happ).1 ⟨rfl, State.Warmed39.refl s, rfl⟩ trivial
  refine ⟨n, _, h1, h2, h3, hpost _ _ _ _ _ _ ⟨Cond.after_iff.mpr rfl, Cond.after_iff.mpr (eq_i res_at (Term.int_eval (1)) rfl), trivial⟩ ⟨hq.1, hq.2.1, (hq.2.2.sift fun y hy => Or.inr (N y hy)).mono (by decide) (by decide)⟩⟩
theorem main_1_1 : Claimed_1_1 := comes_1 fun _ _ _ _ _ _ h hF => ⟨h.1, hF⟩
theorem main_1_2 : Claimed_1_2 := comes_1 fun _ _ _ _ _ _ h hF => ⟨h.2.1, hF⟩
end Jvm.Pilot.@@N@@
namespace Jvm.Pilot.@@N@@
open Jvm Jvm.ClassFile Sem Op Lib Jvm.Free Jvm.Stand Jvm.Pilot.@@N@@.Jvm.D
/-! MADE BY PROGRAM (witnessworld.py) out of the Statement's table words and the real class files: 27 classes; the members and pool entries that the words name. The judged class is class 1, her method 2. -/
namespace start1
open Jvm.ClassFile
def u (s : String) : CpInfo := .utf8 (stringToUtf16 s)
/-- a pool by its gaps: so many unusable entries, then the entry; so many at the end -/
def gap : Nat → List CpInfo → List CpInfo
  | 0, r => r
  | n + 1, r => .unusable :: gap n r
def poolList (es : List (Nat × CpInfo)) (last : Nat) : List CpInfo := es.foldr (fun e r => gap e.1 (e.2 :: r)) (gap last [])
def pool (es : List (Nat × CpInfo)) (last : Nat) : Array CpInfo := ⟨poolList es last⟩
def fileOf (pool : Array CpInfo) (this : Nat) (attrs : Array Attribute := #[]) (ms : Array MethodInfo := #[]) (fl : Nat := 33) (sup : Nat := 0) (ifs : Array Nat := #[]) (fds : Array FieldInfo := #[]) : ClassFile where
  minorVersion := 0
  majorVersion := 65
  constantPool := pool
  accessFlags := fl
  thisClass := this
  superClass := sup
  interfaces := ifs
  fields := fds
  methods := ms
  attributes := attrs
def plain (name : String) (sup : Option ClassId) : Class where
  name := name
  kind := .ordinary
  loader := none
  accessFlags := 33
  super := sup
  interfaces := #[]
  cf := none
  fields := #[]
  methods := #[]
  instanceTypes := #[]
  staticTypes := #[]
  resolved := #[]
  callSites := []
  init := .initialized
  statics := none
  mirror := none

def pool0 : Array CpInfo := pool [(5, u "<init>"), (0, u "()V"), (1, .class_ 10), (1, u "java/lang/Object")] 113

def k0c0 : Code := { maxStack := 0, maxLocals := 1, code := object_method_1_code, exceptionTable := #[], attributes := #[] }
def k0m0 : Method := { name := "<init>", desc := "()V", sig := { parameters := [], returnType := none }, accessFlags := 1, code := some k0c0 }
/-- java/lang/Object -/
def k0 : Class := { plain "java/lang/Object" none with
  accessFlags := 33
  interfaces := #[]
  cf := some (fileOf pool0 8 #[] #[{ accessFlags := 1, nameIndex := 5, descriptorIndex := 6, attributes := #[] }] 33 0 #[] #[])
  fields := #[]
  methods := #[k0m0]
  instanceTypes := #[]
  staticTypes := #[]
  resolved := Array.replicate 124 none
  statics := none }

def pool1 : Array CpInfo := pool [(2, .class_ 4), (1, u "java/lang/Object"), (0, u "<init>"), (0, u "()V"), (0, .integer 1000000000), (0, .class_ 9), (0, u "com/example/voce/voce/Quarter"), (0, .methodref 8 11), (0, .nameAndType 5 12), (0, u "(II)V"), (0, .methodref 8 14), (0, .nameAndType 15 16), (0, u "firstMonth"), (0, u "()Ljava/time/YearMonth;"), (0, .methodref 18 19), (0, .class_ 20), (0, .nameAndType 21 22), (0, u "java/time/YearMonth"), (0, u "getYear"), (0, u "()I"), (0, .methodref 18 24), (0, .nameAndType 25 22), (0, u "getMonthValue"), (0, .methodref 27 28), (0, .class_ 29), (0, .nameAndType 30 31), (0, u "com/example/voce/voce/QuarterFirstMonthPinLaw"), (0, u "expectedMonth"), (0, u "(I)I"), (3, u "law"), (0, u "(II)Z")] 2

def k1m0 : Method := { name := "<init>", desc := "()V", sig := { parameters := [], returnType := none }, accessFlags := 2, code := none }
def k1c1 : Code := { maxStack := 2, maxLocals := 1, code := method_2_code, exceptionTable := #[], attributes := #[] }
def k1m1 : Method := { name := "expectedMonth", desc := "(I)I", sig := { parameters := [.int], returnType := some .int }, accessFlags := 10, code := some k1c1 }
def k1c2 : Code := { maxStack := 4, maxLocals := 6, code := code, exceptionTable := #[], attributes := #[] }
def k1m2 : Method := { name := "law", desc := "(II)Z", sig := { parameters := [.int, .int], returnType := some .boolean }, accessFlags := 9, code := some k1c2 }
/-- com/example/voce/voce/QuarterFirstMonthPinLaw -/
def k1 : Class := { plain "com/example/voce/voce/QuarterFirstMonthPinLaw" (some 0) with
  accessFlags := 49
  interfaces := #[]
  cf := some (fileOf pool1 27 #[] #[{ accessFlags := 2, nameIndex := 5, descriptorIndex := 6, attributes := #[] }, { accessFlags := 10, nameIndex := 30, descriptorIndex := 31, attributes := #[] }, { accessFlags := 9, nameIndex := 35, descriptorIndex := 36, attributes := #[] }] 49 2 #[] #[])
  fields := #[]
  methods := #[k1m0, k1m1, k1m2]
  instanceTypes := #[]
  staticTypes := #[]
  resolved := Array.replicate 39 none
  statics := none }

def pool2 : Array CpInfo := pool [(1, .methodref 2 3), (0, .class_ 4), (0, .nameAndType 5 6), (0, u "java/lang/Object"), (0, u "<init>"), (0, u "()V"), (0, .class_ 8), (0, u "java/lang/Record")] 13

def k2c0 : Code := { maxStack := 1, maxLocals := 1, code := jdk_30_method_1_code, exceptionTable := #[], attributes := #[] }
def k2m0 : Method := { name := "<init>", desc := "()V", sig := { parameters := [], returnType := none }, accessFlags := 4, code := some k2c0 }
/-- java/lang/Record -/
def k2 : Class := { plain "java/lang/Record" (some 0) with
  accessFlags := 1057
  interfaces := #[]
  cf := some (fileOf pool2 7 #[] #[{ accessFlags := 4, nameIndex := 5, descriptorIndex := 6, attributes := #[] }] 1057 2 #[] #[])
  fields := #[]
  methods := #[k2m0]
  instanceTypes := #[]
  staticTypes := #[]
  resolved := Array.replicate 22 none
  statics := none }

def pool3 : Array CpInfo := pool [(1, .class_ 2), (0, u "java/lang/Comparable"), (0, .class_ 4), (0, u "java/lang/Object")] 7

/-- java/lang/Comparable -/
def k3 : Class := { plain "java/lang/Comparable" (some 0) with
  accessFlags := 1537
  interfaces := #[]
  cf := some (fileOf pool3 1 #[] #[] 1537 3 #[] #[])
  fields := #[]
  methods := #[]
  instanceTypes := #[]
  staticTypes := #[]
  resolved := Array.replicate 12 none
  statics := none }

def pool4 : Array CpInfo := pool [(1, .methodref 2 3), (0, .class_ 4), (0, .nameAndType 5 6), (0, u "java/lang/Record"), (0, u "<init>"), (0, u "()V"), (0, .fieldref 8 9), (0, .class_ 10), (0, .nameAndType 11 12), (0, u "com/example/voce/voce/Quarter"), (0, u "year"), (0, u "I"), (0, .fieldref 8 14), (0, .nameAndType 15 12), (0, u "number"), (2, u "QUARTER"), (0, u "Ljava/util/regex/Pattern;"), (24, u "(II)V"), (1, .class_ 48), (1, u "java/time/YearMonth"), (5, .methodref 46 55), (0, .nameAndType 56 57), (0, u "of"), (0, u "(II)Ljava/time/YearMonth;"), (2, u "firstMonth"), (0, u "()Ljava/time/YearMonth;"), (16, u "ORDER"), (0, u "Ljava/util/Comparator;"), (55, .class_ 136), (0, u "java/lang/Comparable"), (2, u "MONTHS")] 54

def k4c0 : Code := { maxStack := 2, maxLocals := 3, code := prog_19_method_1_code, exceptionTable := #[], attributes := #[] }
def k4m0 : Method := { name := "<init>", desc := "(II)V", sig := { parameters := [.int, .int], returnType := none }, accessFlags := 0, code := some k4c0 }
def k4c1 : Code := { maxStack := 3, maxLocals := 1, code := prog_19_method_4_code, exceptionTable := #[], attributes := #[] }
def k4m1 : Method := { name := "firstMonth", desc := "()Ljava/time/YearMonth;", sig := { parameters := [], returnType := some (.object "java/time/YearMonth") }, accessFlags := 0, code := some k4c1 }
/-- com/example/voce/voce/Quarter -/
def k4 : Class := { plain "com/example/voce/voce/Quarter" (some 2) with
  accessFlags := 48
  interfaces := #[3]
  cf := some (fileOf pool4 8 #[] #[{ accessFlags := 0, nameIndex := 5, descriptorIndex := 44, attributes := #[] }, { accessFlags := 0, nameIndex := 60, descriptorIndex := 61, attributes := #[] }] 48 2 #[135] #[{ accessFlags := 18, nameIndex := 11, descriptorIndex := 12, attributes := #[] }, { accessFlags := 18, nameIndex := 15, descriptorIndex := 12, attributes := #[] }, { accessFlags := 26, nameIndex := 18, descriptorIndex := 19, attributes := #[] }, { accessFlags := 26, nameIndex := 78, descriptorIndex := 79, attributes := #[] }, { accessFlags := 26, nameIndex := 139, descriptorIndex := 12, attributes := #[] }])
  fields := #[{ name := "year", type := .int, accessFlags := 18, slot := 0, constantValue := 0 }, { name := "number", type := .int, accessFlags := 18, slot := 1, constantValue := 0 }, { name := "QUARTER", type := (.object "java/util/regex/Pattern"), accessFlags := 26, slot := 0, constantValue := 0 }, { name := "ORDER", type := (.object "java/util/Comparator"), accessFlags := 26, slot := 1, constantValue := 0 }, { name := "MONTHS", type := .int, accessFlags := 26, slot := 2, constantValue := 0 }]
  methods := #[k4m0, k4m1]
  instanceTypes := #[.int, .int]
  staticTypes := #[(.object "java/util/regex/Pattern"), (.object "java/util/Comparator"), .int]
  resolved := Array.replicate 194 none
  statics := none }

def pool5 : Array CpInfo := pool [(4, .class_ 6), (1, u "java/time/temporal/TemporalAccessor"), (95, .class_ 103), (0, u "java/lang/Object")] 21

/-- java/time/temporal/TemporalAccessor -/
def k5 : Class := { plain "java/time/temporal/TemporalAccessor" (some 0) with
  accessFlags := 1537
  interfaces := #[]
  cf := some (fileOf pool5 4 #[] #[] 1537 102 #[] #[])
  fields := #[]
  methods := #[]
  instanceTypes := #[]
  staticTypes := #[]
  resolved := Array.replicate 125 none
  statics := none }

def pool6 : Array CpInfo := pool [(22, .class_ 24), (1, u "java/time/temporal/Temporal"), (2, .class_ 28), (0, u "java/lang/Object"), (0, .class_ 30), (0, u "java/time/temporal/TemporalAccessor")] 25

/-- java/time/temporal/Temporal -/
def k6 : Class := { plain "java/time/temporal/Temporal" (some 0) with
  accessFlags := 1537
  interfaces := #[5]
  cf := some (fileOf pool6 22 #[] #[] 1537 27 #[29] #[])
  fields := #[]
  methods := #[]
  instanceTypes := #[]
  staticTypes := #[]
  resolved := Array.replicate 56 none
  statics := none }

def pool7 : Array CpInfo := pool [(1, .class_ 2), (0, u "java/time/temporal/TemporalAdjuster"), (0, .class_ 4), (0, u "java/lang/Object")] 6

/-- java/time/temporal/TemporalAdjuster -/
def k7 : Class := { plain "java/time/temporal/TemporalAdjuster" (some 0) with
  accessFlags := 1537
  interfaces := #[]
  cf := some (fileOf pool7 1 #[] #[] 1537 3 #[] #[])
  fields := #[]
  methods := #[]
  instanceTypes := #[]
  staticTypes := #[]
  resolved := Array.replicate 11 none
  statics := none }

def pool8 : Array CpInfo := pool [(1, .class_ 2), (0, u "java/io/Serializable"), (0, .class_ 4), (0, u "java/lang/Object")] 2

/-- java/io/Serializable -/
def k8 : Class := { plain "java/io/Serializable" (some 0) with
  accessFlags := 1537
  interfaces := #[]
  cf := some (fileOf pool8 1 #[] #[] 1537 3 #[] #[])
  fields := #[]
  methods := #[]
  instanceTypes := #[]
  staticTypes := #[]
  resolved := Array.replicate 7 none
  statics := none }

def pool9 : Array CpInfo := pool [(8, .class_ 10), (1, u "java/time/YearMonth"), (13, u "getYear"), (0, u "()I"), (6, u "of"), (2, u "month"), (13, u "(II)Ljava/time/YearMonth;"), (0, .fieldref 51 52), (0, .class_ 53), (0, .nameAndType 54 55), (0, u "java/time/temporal/ChronoField"), (0, u "YEAR"), (0, u "Ljava/time/temporal/ChronoField;"), (0, .methodref 51 57), (0, .nameAndType 58 59), (0, u "checkValidValue"), (0, u "(J)J"), (0, .fieldref 51 61), (0, .nameAndType 62 55), (0, u "MONTH_OF_YEAR"), (0, .methodref 8 64), (0, .nameAndType 65 66), (0, u "<init>"), (0, u "(II)V"), (32, .nameAndType 65 100), (0, u "()V"), (29, u "PARSER"), (0, u "Ljava/time/format/DateTimeFormatter;"), (15, .methodref 148 99), (0, .class_ 149), (0, u "java/lang/Object"), (0, .fieldref 8 151), (0, .nameAndType 152 153), (0, u "year"), (0, u "I"), (0, .fieldref 8 155), (0, .nameAndType 35 153), (54, .class_ 212), (1, u "java/time/temporal/Temporal"), (12, .class_ 227), (1, u "java/time/YearMonth$1"), (41, .class_ 271), (1, u "java/time/temporal/TemporalAdjuster"), (193, .class_ 466), (0, u "java/lang/Comparable"), (0, .class_ 468), (0, u "java/io/Serializable"), (0, u "serialVersionUID"), (0, u "J"), (33, u "getMonthValue")] 96

def k9c0 : Code := { maxStack := 4, maxLocals := 2, code := jdk_2340_method_5_code, exceptionTable := #[], attributes := #[] }
def k9m0 : Method := { name := "of", desc := "(II)Ljava/time/YearMonth;", sig := { parameters := [.int, .int], returnType := some (.object "java/time/YearMonth") }, accessFlags := 9, code := some k9c0 }
def k9c1 : Code := { maxStack := 2, maxLocals := 3, code := jdk_2340_method_9_code, exceptionTable := #[], attributes := #[] }
def k9m1 : Method := { name := "<init>", desc := "(II)V", sig := { parameters := [.int, .int], returnType := none }, accessFlags := 2, code := some k9c1 }
def k9c2 : Code := { maxStack := 1, maxLocals := 1, code := jdk_2340_method_17_code, exceptionTable := #[], attributes := #[] }
def k9m2 : Method := { name := "getYear", desc := "()I", sig := { parameters := [], returnType := some .int }, accessFlags := 1, code := some k9c2 }
def k9c3 : Code := { maxStack := 1, maxLocals := 1, code := jdk_2340_method_18_code, exceptionTable := #[], attributes := #[] }
def k9m3 : Method := { name := "getMonthValue", desc := "()I", sig := { parameters := [], returnType := some .int }, accessFlags := 1, code := some k9c3 }
/-- java/time/YearMonth -/
def k9 : Class := { plain "java/time/YearMonth" (some 0) with
  accessFlags := 49
  interfaces := #[6, 7, 3, 8]
  cf := some (fileOf pool9 8 #[.nestMembers #[225]] #[{ accessFlags := 9, nameIndex := 32, descriptorIndex := 49, attributes := #[] }, { accessFlags := 2, nameIndex := 65, descriptorIndex := 66, attributes := #[] }, { accessFlags := 1, nameIndex := 24, descriptorIndex := 25, attributes := #[] }, { accessFlags := 1, nameIndex := 504, descriptorIndex := 25, attributes := #[] }] 49 148 #[210, 269, 465, 467] #[{ accessFlags := 26, nameIndex := 469, descriptorIndex := 470, attributes := #[] }, { accessFlags := 26, nameIndex := 130, descriptorIndex := 131, attributes := #[] }, { accessFlags := 18, nameIndex := 152, descriptorIndex := 153, attributes := #[] }, { accessFlags := 18, nameIndex := 35, descriptorIndex := 153, attributes := #[] }])
  fields := #[{ name := "serialVersionUID", type := .long, accessFlags := 26, slot := 0, constantValue := 0 }, { name := "PARSER", type := (.object "java/time/format/DateTimeFormatter"), accessFlags := 26, slot := 1, constantValue := 0 }, { name := "year", type := .int, accessFlags := 18, slot := 0, constantValue := 0 }, { name := "month", type := .int, accessFlags := 18, slot := 1, constantValue := 0 }]
  methods := #[k9m0, k9m1, k9m2, k9m3]
  instanceTypes := #[.int, .int]
  staticTypes := #[.long, (.object "java/time/format/DateTimeFormatter")]
  resolved := Array.replicate 601 none
  statics := none }

def pool10 : Array CpInfo := pool [(1, .class_ 2), (0, u "java/lang/constant/Constable"), (0, .class_ 4), (0, u "java/lang/Object")] 6

/-- java/lang/constant/Constable -/
def k10 : Class := { plain "java/lang/constant/Constable" (some 0) with
  accessFlags := 1537
  interfaces := #[]
  cf := some (fileOf pool10 1 #[] #[] 1537 3 #[] #[])
  fields := #[]
  methods := #[]
  instanceTypes := #[]
  staticTypes := #[]
  resolved := Array.replicate 11 none
  statics := none }

def pool11 : Array CpInfo := pool [(2, .class_ 4), (1, u "java/lang/Enum"), (0, u "name"), (0, u "Ljava/lang/String;"), (2, u "ordinal"), (0, u "I"), (1, .class_ 14), (1, u "java/lang/Object"), (4, u "hash"), (86, .class_ 108), (1, u "java/lang/Enum$EnumDesc"), (2, .class_ 112), (0, u "java/lang/constant/Constable"), (0, .class_ 114), (0, u "java/lang/Comparable"), (0, .class_ 116), (0, u "java/io/Serializable")] 87

/-- java/lang/Enum -/
def k11 : Class := { plain "java/lang/Enum" (some 0) with
  accessFlags := 1057
  interfaces := #[10, 3, 8]
  cf := some (fileOf pool11 2 #[.nestMembers #[106]] #[] 1057 12 #[111, 113, 115] #[{ accessFlags := 18, nameIndex := 5, descriptorIndex := 6, attributes := #[] }, { accessFlags := 18, nameIndex := 9, descriptorIndex := 10, attributes := #[] }, { accessFlags := 2, nameIndex := 19, descriptorIndex := 10, attributes := #[] }])
  fields := #[{ name := "name", type := (.object "java/lang/String"), accessFlags := 18, slot := 0, constantValue := 0 }, { name := "ordinal", type := .int, accessFlags := 18, slot := 1, constantValue := 0 }, { name := "hash", type := .int, accessFlags := 2, slot := 2, constantValue := 0 }]
  methods := #[]
  instanceTypes := #[(.object "java/lang/String"), .int, .int]
  staticTypes := #[]
  resolved := Array.replicate 204 none
  statics := none }

def pool12 : Array CpInfo := pool [(10, .class_ 12), (1, u "java/time/temporal/TemporalField"), (2, .class_ 16), (0, u "java/lang/Object")] 39

/-- java/time/temporal/TemporalField -/
def k12 : Class := { plain "java/time/temporal/TemporalField" (some 0) with
  accessFlags := 1537
  interfaces := #[]
  cf := some (fileOf pool12 10 #[] #[] 1537 15 #[] #[])
  fields := #[]
  methods := #[]
  instanceTypes := #[]
  staticTypes := #[]
  resolved := Array.replicate 56 none
  statics := none }

def pool13 : Array CpInfo := pool [(1, .class_ 2), (0, u "java/time/temporal/ChronoField"), (2, u "NANO_OF_SECOND"), (0, u "Ljava/time/temporal/ChronoField;"), (2, u "NANO_OF_DAY"), (2, u "MICRO_OF_SECOND"), (2, u "MICRO_OF_DAY"), (2, u "MILLI_OF_SECOND"), (2, u "MILLI_OF_DAY"), (2, u "SECOND_OF_MINUTE"), (2, u "SECOND_OF_DAY"), (2, u "MINUTE_OF_HOUR"), (2, u "MINUTE_OF_DAY"), (2, u "HOUR_OF_AMPM"), (2, u "CLOCK_HOUR_OF_AMPM"), (2, u "HOUR_OF_DAY"), (2, u "CLOCK_HOUR_OF_DAY"), (2, u "AMPM_OF_DAY"), (2, u "DAY_OF_WEEK"), (2, u "ALIGNED_DAY_OF_WEEK_IN_MONTH"), (2, u "ALIGNED_DAY_OF_WEEK_IN_YEAR"), (2, u "DAY_OF_MONTH"), (2, u "DAY_OF_YEAR"), (2, u "EPOCH_DAY"), (2, u "ALIGNED_WEEK_OF_MONTH"), (2, u "ALIGNED_WEEK_OF_YEAR"), (2, u "MONTH_OF_YEAR"), (2, u "PROLEPTIC_MONTH"), (2, u "YEAR_OF_ERA"), (2, u "YEAR"), (2, u "ERA"), (2, u "INSTANT_SECONDS"), (2, u "OFFSET_SECONDS"), (2, u "$VALUES"), (0, u "[Ljava/time/temporal/ChronoField;"), (6, .class_ 106), (1, u "java/lang/Enum"), (8, u "name"), (0, u "Ljava/lang/String;"), (2, u "baseUnit"), (0, u "Ljava/time/temporal/TemporalUnit;"), (2, u "rangeUnit"), (0, .fieldref 1 125), (0, .nameAndType 126 127), (0, u "range"), (0, u "Ljava/time/temporal/ValueRange;"), (2, u "displayNameKey"), (59, .methodref 1 191), (0, .nameAndType 126 192), (0, u "()Ljava/time/temporal/ValueRange;"), (0, .methodref 194 195), (0, .class_ 196), (0, .nameAndType 197 198), (0, u "java/time/temporal/ValueRange"), (0, u "checkValidValue"), (0, u "(JLjava/time/temporal/TemporalField;)J"), (256, .class_ 456), (0, u "java/time/temporal/TemporalField"), (27, u "(J)J")] 22

def k13c0 : Code := { maxStack := 1, maxLocals := 1, code := jdk_2395_method_8_code, exceptionTable := #[], attributes := #[] }
def k13m0 : Method := { name := "range", desc := "()Ljava/time/temporal/ValueRange;", sig := { parameters := [], returnType := some (.object "java/time/temporal/ValueRange") }, accessFlags := 1, code := some k13c0 }
def k13c1 : Code := { maxStack := 4, maxLocals := 3, code := jdk_2395_method_11_code, exceptionTable := #[], attributes := #[] }
def k13m1 : Method := { name := "checkValidValue", desc := "(J)J", sig := { parameters := [.long], returnType := some .long }, accessFlags := 1, code := some k13c1 }
/-- java/time/temporal/ChronoField -/
def k13 : Class := { plain "java/time/temporal/ChronoField" (some 11) with
  accessFlags := 16433
  interfaces := #[12]
  cf := some (fileOf pool13 1 #[] #[{ accessFlags := 1, nameIndex := 126, descriptorIndex := 192, attributes := #[] }, { accessFlags := 1, nameIndex := 197, descriptorIndex := 484, attributes := #[] }] 16433 104 #[455] #[{ accessFlags := 16409, nameIndex := 5, descriptorIndex := 6, attributes := #[] }, { accessFlags := 16409, nameIndex := 9, descriptorIndex := 6, attributes := #[] }, { accessFlags := 16409, nameIndex := 12, descriptorIndex := 6, attributes := #[] }, { accessFlags := 16409, nameIndex := 15, descriptorIndex := 6, attributes := #[] }, { accessFlags := 16409, nameIndex := 18, descriptorIndex := 6, attributes := #[] }, { accessFlags := 16409, nameIndex := 21, descriptorIndex := 6, attributes := #[] }, { accessFlags := 16409, nameIndex := 24, descriptorIndex := 6, attributes := #[] }, { accessFlags := 16409, nameIndex := 27, descriptorIndex := 6, attributes := #[] }, { accessFlags := 16409, nameIndex := 30, descriptorIndex := 6, attributes := #[] }, { accessFlags := 16409, nameIndex := 33, descriptorIndex := 6, attributes := #[] }, { accessFlags := 16409, nameIndex := 36, descriptorIndex := 6, attributes := #[] }, { accessFlags := 16409, nameIndex := 39, descriptorIndex := 6, attributes := #[] }, { accessFlags := 16409, nameIndex := 42, descriptorIndex := 6, attributes := #[] }, { accessFlags := 16409, nameIndex := 45, descriptorIndex := 6, attributes := #[] }, { accessFlags := 16409, nameIndex := 48, descriptorIndex := 6, attributes := #[] }, { accessFlags := 16409, nameIndex := 51, descriptorIndex := 6, attributes := #[] }, { accessFlags := 16409, nameIndex := 54, descriptorIndex := 6, attributes := #[] }, { accessFlags := 16409, nameIndex := 57, descriptorIndex := 6, attributes := #[] }, { accessFlags := 16409, nameIndex := 60, descriptorIndex := 6, attributes := #[] }, { accessFlags := 16409, nameIndex := 63, descriptorIndex := 6, attributes := #[] }, { accessFlags := 16409, nameIndex := 66, descriptorIndex := 6, attributes := #[] }, { accessFlags := 16409, nameIndex := 69, descriptorIndex := 6, attributes := #[] }, { accessFlags := 16409, nameIndex := 72, descriptorIndex := 6, attributes := #[] }, { accessFlags := 16409, nameIndex := 75, descriptorIndex := 6, attributes := #[] }, { accessFlags := 16409, nameIndex := 78, descriptorIndex := 6, attributes := #[] }, { accessFlags := 16409, nameIndex := 81, descriptorIndex := 6, attributes := #[] }, { accessFlags := 16409, nameIndex := 84, descriptorIndex := 6, attributes := #[] }, { accessFlags := 16409, nameIndex := 87, descriptorIndex := 6, attributes := #[] }, { accessFlags := 16409, nameIndex := 90, descriptorIndex := 6, attributes := #[] }, { accessFlags := 16409, nameIndex := 93, descriptorIndex := 6, attributes := #[] }, { accessFlags := 18, nameIndex := 115, descriptorIndex := 116, attributes := #[] }, { accessFlags := 18, nameIndex := 119, descriptorIndex := 120, attributes := #[] }, { accessFlags := 18, nameIndex := 123, descriptorIndex := 120, attributes := #[] }, { accessFlags := 18, nameIndex := 126, descriptorIndex := 127, attributes := #[] }, { accessFlags := 18, nameIndex := 130, descriptorIndex := 116, attributes := #[] }, { accessFlags := 4122, nameIndex := 96, descriptorIndex := 97, attributes := #[] }])
  fields := #[{ name := "NANO_OF_SECOND", type := (.object "java/time/temporal/ChronoField"), accessFlags := 16409, slot := 0, constantValue := 0 }, { name := "NANO_OF_DAY", type := (.object "java/time/temporal/ChronoField"), accessFlags := 16409, slot := 1, constantValue := 0 }, { name := "MICRO_OF_SECOND", type := (.object "java/time/temporal/ChronoField"), accessFlags := 16409, slot := 2, constantValue := 0 }, { name := "MICRO_OF_DAY", type := (.object "java/time/temporal/ChronoField"), accessFlags := 16409, slot := 3, constantValue := 0 }, { name := "MILLI_OF_SECOND", type := (.object "java/time/temporal/ChronoField"), accessFlags := 16409, slot := 4, constantValue := 0 }, { name := "MILLI_OF_DAY", type := (.object "java/time/temporal/ChronoField"), accessFlags := 16409, slot := 5, constantValue := 0 }, { name := "SECOND_OF_MINUTE", type := (.object "java/time/temporal/ChronoField"), accessFlags := 16409, slot := 6, constantValue := 0 }, { name := "SECOND_OF_DAY", type := (.object "java/time/temporal/ChronoField"), accessFlags := 16409, slot := 7, constantValue := 0 }, { name := "MINUTE_OF_HOUR", type := (.object "java/time/temporal/ChronoField"), accessFlags := 16409, slot := 8, constantValue := 0 }, { name := "MINUTE_OF_DAY", type := (.object "java/time/temporal/ChronoField"), accessFlags := 16409, slot := 9, constantValue := 0 }, { name := "HOUR_OF_AMPM", type := (.object "java/time/temporal/ChronoField"), accessFlags := 16409, slot := 10, constantValue := 0 }, { name := "CLOCK_HOUR_OF_AMPM", type := (.object "java/time/temporal/ChronoField"), accessFlags := 16409, slot := 11, constantValue := 0 }, { name := "HOUR_OF_DAY", type := (.object "java/time/temporal/ChronoField"), accessFlags := 16409, slot := 12, constantValue := 0 }, { name := "CLOCK_HOUR_OF_DAY", type := (.object "java/time/temporal/ChronoField"), accessFlags := 16409, slot := 13, constantValue := 0 }, { name := "AMPM_OF_DAY", type := (.object "java/time/temporal/ChronoField"), accessFlags := 16409, slot := 14, constantValue := 0 }, { name := "DAY_OF_WEEK", type := (.object "java/time/temporal/ChronoField"), accessFlags := 16409, slot := 15, constantValue := 0 }, { name := "ALIGNED_DAY_OF_WEEK_IN_MONTH", type := (.object "java/time/temporal/ChronoField"), accessFlags := 16409, slot := 16, constantValue := 0 }, { name := "ALIGNED_DAY_OF_WEEK_IN_YEAR", type := (.object "java/time/temporal/ChronoField"), accessFlags := 16409, slot := 17, constantValue := 0 }, { name := "DAY_OF_MONTH", type := (.object "java/time/temporal/ChronoField"), accessFlags := 16409, slot := 18, constantValue := 0 }, { name := "DAY_OF_YEAR", type := (.object "java/time/temporal/ChronoField"), accessFlags := 16409, slot := 19, constantValue := 0 }, { name := "EPOCH_DAY", type := (.object "java/time/temporal/ChronoField"), accessFlags := 16409, slot := 20, constantValue := 0 }, { name := "ALIGNED_WEEK_OF_MONTH", type := (.object "java/time/temporal/ChronoField"), accessFlags := 16409, slot := 21, constantValue := 0 }, { name := "ALIGNED_WEEK_OF_YEAR", type := (.object "java/time/temporal/ChronoField"), accessFlags := 16409, slot := 22, constantValue := 0 }, { name := "MONTH_OF_YEAR", type := (.object "java/time/temporal/ChronoField"), accessFlags := 16409, slot := 23, constantValue := 0 }, { name := "PROLEPTIC_MONTH", type := (.object "java/time/temporal/ChronoField"), accessFlags := 16409, slot := 24, constantValue := 0 }, { name := "YEAR_OF_ERA", type := (.object "java/time/temporal/ChronoField"), accessFlags := 16409, slot := 25, constantValue := 0 }, { name := "YEAR", type := (.object "java/time/temporal/ChronoField"), accessFlags := 16409, slot := 26, constantValue := 0 }, { name := "ERA", type := (.object "java/time/temporal/ChronoField"), accessFlags := 16409, slot := 27, constantValue := 0 }, { name := "INSTANT_SECONDS", type := (.object "java/time/temporal/ChronoField"), accessFlags := 16409, slot := 28, constantValue := 0 }, { name := "OFFSET_SECONDS", type := (.object "java/time/temporal/ChronoField"), accessFlags := 16409, slot := 29, constantValue := 0 }, { name := "name", type := (.object "java/lang/String"), accessFlags := 18, slot := 3, constantValue := 0 }, { name := "baseUnit", type := (.object "java/time/temporal/TemporalUnit"), accessFlags := 18, slot := 4, constantValue := 0 }, { name := "rangeUnit", type := (.object "java/time/temporal/TemporalUnit"), accessFlags := 18, slot := 5, constantValue := 0 }, { name := "range", type := (.object "java/time/temporal/ValueRange"), accessFlags := 18, slot := 6, constantValue := 0 }, { name := "displayNameKey", type := (.object "java/lang/String"), accessFlags := 18, slot := 7, constantValue := 0 }, { name := "$VALUES", type := (.array (.object "java/time/temporal/ChronoField")), accessFlags := 4122, slot := 30, constantValue := 0 }]
  methods := #[k13m0, k13m1]
  instanceTypes := #[(.object "java/lang/String"), .int, .int, (.object "java/lang/String"), (.object "java/time/temporal/TemporalUnit"), (.object "java/time/temporal/TemporalUnit"), (.object "java/time/temporal/ValueRange"), (.object "java/lang/String")]
  staticTypes := #[(.object "java/time/temporal/ChronoField"), (.object "java/time/temporal/ChronoField"), (.object "java/time/temporal/ChronoField"), (.object "java/time/temporal/ChronoField"), (.object "java/time/temporal/ChronoField"), (.object "java/time/temporal/ChronoField"), (.object "java/time/temporal/ChronoField"), (.object "java/time/temporal/ChronoField"), (.object "java/time/temporal/ChronoField"), (.object "java/time/temporal/ChronoField"), (.object "java/time/temporal/ChronoField"), (.object "java/time/temporal/ChronoField"), (.object "java/time/temporal/ChronoField"), (.object "java/time/temporal/ChronoField"), (.object "java/time/temporal/ChronoField"), (.object "java/time/temporal/ChronoField"), (.object "java/time/temporal/ChronoField"), (.object "java/time/temporal/ChronoField"), (.object "java/time/temporal/ChronoField"), (.object "java/time/temporal/ChronoField"), (.object "java/time/temporal/ChronoField"), (.object "java/time/temporal/ChronoField"), (.object "java/time/temporal/ChronoField"), (.object "java/time/temporal/ChronoField"), (.object "java/time/temporal/ChronoField"), (.object "java/time/temporal/ChronoField"), (.object "java/time/temporal/ChronoField"), (.object "java/time/temporal/ChronoField"), (.object "java/time/temporal/ChronoField"), (.object "java/time/temporal/ChronoField"), (.array (.object "java/time/temporal/ChronoField"))]
  resolved := Array.replicate 507 none
  statics := some 0 }

def pool14 : Array CpInfo := pool [(9, .class_ 10), (0, u "java/time/temporal/ValueRange"), (18, .class_ 31), (1, u "java/lang/Object"), (1, .fieldref 9 34), (0, .nameAndType 35 36), (0, u "minSmallest"), (0, u "J"), (2, u "minLargest"), (2, u "maxSmallest"), (0, .fieldref 9 44), (0, .nameAndType 45 36), (0, u "maxLargest"), (0, .methodref 9 47), (0, .nameAndType 48 49), (0, u "getMinimum"), (0, u "()J"), (4, .methodref 9 55), (0, .nameAndType 56 49), (0, u "getMaximum"), (6, .methodref 9 64), (0, .nameAndType 65 66), (0, u "isValidValue"), (0, u "(J)Z"), (54, .class_ 122), (0, u "java/io/Serializable"), (0, u "serialVersionUID"), (17, u "checkValidValue"), (0, u "(JLjava/time/temporal/TemporalField;)J")] 24

def k14c0 : Code := { maxStack := 2, maxLocals := 1, code := jdk_2423_method_6_code, exceptionTable := #[], attributes := #[] }
def k14m0 : Method := { name := "getMinimum", desc := "()J", sig := { parameters := [], returnType := some .long }, accessFlags := 1, code := some k14c0 }
def k14c1 : Code := { maxStack := 2, maxLocals := 1, code := jdk_2423_method_9_code, exceptionTable := #[], attributes := #[] }
def k14m1 : Method := { name := "getMaximum", desc := "()J", sig := { parameters := [], returnType := some .long }, accessFlags := 1, code := some k14c1 }
def k14c2 : Code := { maxStack := 4, maxLocals := 3, code := jdk_2423_method_11_code, exceptionTable := #[], attributes := #[] }
def k14m2 : Method := { name := "isValidValue", desc := "(J)Z", sig := { parameters := [.long], returnType := some .boolean }, accessFlags := 1, code := some k14c2 }
def k14c3 : Code := { maxStack := 6, maxLocals := 4, code := jdk_2423_method_13_code, exceptionTable := #[], attributes := #[] }
def k14m3 : Method := { name := "checkValidValue", desc := "(JLjava/time/temporal/TemporalField;)J", sig := { parameters := [.long, (.object "java/time/temporal/TemporalField")], returnType := some .long }, accessFlags := 1, code := some k14c3 }
/-- java/time/temporal/ValueRange -/
def k14 : Class := { plain "java/time/temporal/ValueRange" (some 0) with
  accessFlags := 49
  interfaces := #[8]
  cf := some (fileOf pool14 9 #[] #[{ accessFlags := 1, nameIndex := 48, descriptorIndex := 49, attributes := #[] }, { accessFlags := 1, nameIndex := 56, descriptorIndex := 49, attributes := #[] }, { accessFlags := 1, nameIndex := 65, descriptorIndex := 66, attributes := #[] }, { accessFlags := 1, nameIndex := 141, descriptorIndex := 142, attributes := #[] }] 49 29 #[121] #[{ accessFlags := 26, nameIndex := 123, descriptorIndex := 36, attributes := #[] }, { accessFlags := 18, nameIndex := 35, descriptorIndex := 36, attributes := #[] }, { accessFlags := 18, nameIndex := 39, descriptorIndex := 36, attributes := #[] }, { accessFlags := 18, nameIndex := 42, descriptorIndex := 36, attributes := #[] }, { accessFlags := 18, nameIndex := 45, descriptorIndex := 36, attributes := #[] }])
  fields := #[{ name := "serialVersionUID", type := .long, accessFlags := 26, slot := 0, constantValue := 0 }, { name := "minSmallest", type := .long, accessFlags := 18, slot := 0, constantValue := 0 }, { name := "minLargest", type := .long, accessFlags := 18, slot := 1, constantValue := 0 }, { name := "maxSmallest", type := .long, accessFlags := 18, slot := 2, constantValue := 0 }, { name := "maxLargest", type := .long, accessFlags := 18, slot := 3, constantValue := 0 }]
  methods := #[k14m0, k14m1, k14m2, k14m3]
  instanceTypes := #[.long, .long, .long, .long]
  staticTypes := #[.long]
  resolved := Array.replicate 167 none
  statics := none }

def pool15 : Array CpInfo := pool [(4, .class_ 6), (1, u "java/time/temporal/TemporalUnit"), (23, .class_ 31), (0, u "java/lang/Object")] 27

/-- java/time/temporal/TemporalUnit -/
def k15 : Class := { plain "java/time/temporal/TemporalUnit" (some 0) with
  accessFlags := 1537
  interfaces := #[]
  cf := some (fileOf pool15 4 #[] #[] 1537 30 #[] #[])
  fields := #[]
  methods := #[]
  instanceTypes := #[]
  staticTypes := #[]
  resolved := Array.replicate 59 none
  statics := none }

def pool16 : Array CpInfo := pool [(1, .class_ 2), (0, u "java/time/temporal/ChronoUnit"), (2, u "NANOS"), (0, u "Ljava/time/temporal/ChronoUnit;"), (2, u "MICROS"), (2, u "MILLIS"), (2, u "SECONDS"), (2, u "MINUTES"), (2, u "HOURS"), (2, u "HALF_DAYS"), (2, u "DAYS"), (2, u "WEEKS"), (2, u "MONTHS"), (2, u "YEARS"), (2, u "DECADES"), (2, u "CENTURIES"), (2, u "MILLENNIA"), (2, u "ERAS"), (2, u "FOREVER"), (2, u "$VALUES"), (0, u "[Ljava/time/temporal/ChronoUnit;"), (6, .class_ 64), (1, u "java/lang/Enum"), (8, u "name"), (0, u "Ljava/lang/String;"), (2, u "duration"), (0, u "Ljava/time/Duration;"), (117, .class_ 197), (0, u "java/time/temporal/TemporalUnit")] 39

/-- java/time/temporal/ChronoUnit -/
def k16 : Class := { plain "java/time/temporal/ChronoUnit" (some 11) with
  accessFlags := 16433
  interfaces := #[15]
  cf := some (fileOf pool16 1 #[] #[] 16433 62 #[196] #[{ accessFlags := 16409, nameIndex := 5, descriptorIndex := 6, attributes := #[] }, { accessFlags := 16409, nameIndex := 9, descriptorIndex := 6, attributes := #[] }, { accessFlags := 16409, nameIndex := 12, descriptorIndex := 6, attributes := #[] }, { accessFlags := 16409, nameIndex := 15, descriptorIndex := 6, attributes := #[] }, { accessFlags := 16409, nameIndex := 18, descriptorIndex := 6, attributes := #[] }, { accessFlags := 16409, nameIndex := 21, descriptorIndex := 6, attributes := #[] }, { accessFlags := 16409, nameIndex := 24, descriptorIndex := 6, attributes := #[] }, { accessFlags := 16409, nameIndex := 27, descriptorIndex := 6, attributes := #[] }, { accessFlags := 16409, nameIndex := 30, descriptorIndex := 6, attributes := #[] }, { accessFlags := 16409, nameIndex := 33, descriptorIndex := 6, attributes := #[] }, { accessFlags := 16409, nameIndex := 36, descriptorIndex := 6, attributes := #[] }, { accessFlags := 16409, nameIndex := 39, descriptorIndex := 6, attributes := #[] }, { accessFlags := 16409, nameIndex := 42, descriptorIndex := 6, attributes := #[] }, { accessFlags := 16409, nameIndex := 45, descriptorIndex := 6, attributes := #[] }, { accessFlags := 16409, nameIndex := 48, descriptorIndex := 6, attributes := #[] }, { accessFlags := 16409, nameIndex := 51, descriptorIndex := 6, attributes := #[] }, { accessFlags := 18, nameIndex := 73, descriptorIndex := 74, attributes := #[] }, { accessFlags := 18, nameIndex := 77, descriptorIndex := 78, attributes := #[] }, { accessFlags := 4122, nameIndex := 54, descriptorIndex := 55, attributes := #[] }])
  fields := #[{ name := "NANOS", type := (.object "java/time/temporal/ChronoUnit"), accessFlags := 16409, slot := 0, constantValue := 0 }, { name := "MICROS", type := (.object "java/time/temporal/ChronoUnit"), accessFlags := 16409, slot := 1, constantValue := 0 }, { name := "MILLIS", type := (.object "java/time/temporal/ChronoUnit"), accessFlags := 16409, slot := 2, constantValue := 0 }, { name := "SECONDS", type := (.object "java/time/temporal/ChronoUnit"), accessFlags := 16409, slot := 3, constantValue := 0 }, { name := "MINUTES", type := (.object "java/time/temporal/ChronoUnit"), accessFlags := 16409, slot := 4, constantValue := 0 }, { name := "HOURS", type := (.object "java/time/temporal/ChronoUnit"), accessFlags := 16409, slot := 5, constantValue := 0 }, { name := "HALF_DAYS", type := (.object "java/time/temporal/ChronoUnit"), accessFlags := 16409, slot := 6, constantValue := 0 }, { name := "DAYS", type := (.object "java/time/temporal/ChronoUnit"), accessFlags := 16409, slot := 7, constantValue := 0 }, { name := "WEEKS", type := (.object "java/time/temporal/ChronoUnit"), accessFlags := 16409, slot := 8, constantValue := 0 }, { name := "MONTHS", type := (.object "java/time/temporal/ChronoUnit"), accessFlags := 16409, slot := 9, constantValue := 0 }, { name := "YEARS", type := (.object "java/time/temporal/ChronoUnit"), accessFlags := 16409, slot := 10, constantValue := 0 }, { name := "DECADES", type := (.object "java/time/temporal/ChronoUnit"), accessFlags := 16409, slot := 11, constantValue := 0 }, { name := "CENTURIES", type := (.object "java/time/temporal/ChronoUnit"), accessFlags := 16409, slot := 12, constantValue := 0 }, { name := "MILLENNIA", type := (.object "java/time/temporal/ChronoUnit"), accessFlags := 16409, slot := 13, constantValue := 0 }, { name := "ERAS", type := (.object "java/time/temporal/ChronoUnit"), accessFlags := 16409, slot := 14, constantValue := 0 }, { name := "FOREVER", type := (.object "java/time/temporal/ChronoUnit"), accessFlags := 16409, slot := 15, constantValue := 0 }, { name := "name", type := (.object "java/lang/String"), accessFlags := 18, slot := 3, constantValue := 0 }, { name := "duration", type := (.object "java/time/Duration"), accessFlags := 18, slot := 4, constantValue := 0 }, { name := "$VALUES", type := (.array (.object "java/time/temporal/ChronoUnit")), accessFlags := 4122, slot := 16, constantValue := 0 }]
  methods := #[]
  instanceTypes := #[(.object "java/lang/String"), .int, .int, (.object "java/lang/String"), (.object "java/time/Duration")]
  staticTypes := #[(.object "java/time/temporal/ChronoUnit"), (.object "java/time/temporal/ChronoUnit"), (.object "java/time/temporal/ChronoUnit"), (.object "java/time/temporal/ChronoUnit"), (.object "java/time/temporal/ChronoUnit"), (.object "java/time/temporal/ChronoUnit"), (.object "java/time/temporal/ChronoUnit"), (.object "java/time/temporal/ChronoUnit"), (.object "java/time/temporal/ChronoUnit"), (.object "java/time/temporal/ChronoUnit"), (.object "java/time/temporal/ChronoUnit"), (.object "java/time/temporal/ChronoUnit"), (.object "java/time/temporal/ChronoUnit"), (.object "java/time/temporal/ChronoUnit"), (.object "java/time/temporal/ChronoUnit"), (.object "java/time/temporal/ChronoUnit"), (.array (.object "java/time/temporal/ChronoUnit"))]
  resolved := Array.replicate 237 none
  statics := some 1 }

def pool17 : Array CpInfo := pool [(2, .class_ 4), (1, u "java/lang/CharSequence"), (42, .class_ 48), (0, u "java/lang/CharSequence$1CodePointIterator"), (10, .class_ 60), (0, u "java/lang/CharSequence$1CharIterator"), (5, .class_ 67), (0, u "java/lang/Object")] 63

/-- java/lang/CharSequence -/
def k17 : Class := { plain "java/lang/CharSequence" (some 0) with
  accessFlags := 1537
  interfaces := #[]
  cf := some (fileOf pool17 2 #[.nestMembers #[47, 59]] #[] 1537 66 #[] #[])
  fields := #[]
  methods := #[]
  instanceTypes := #[]
  staticTypes := #[]
  resolved := Array.replicate 131 none
  statics := none }

def pool18 : Array CpInfo := pool [(1, .class_ 2), (0, u "java/lang/constant/ConstantDesc"), (0, .class_ 4), (0, u "java/lang/Object")] 32

/-- java/lang/constant/ConstantDesc -/
def k18 : Class := { plain "java/lang/constant/ConstantDesc" (some 0) with
  accessFlags := 1537
  interfaces := #[]
  cf := some (fileOf pool18 1 #[] #[] 1537 3 #[] #[])
  fields := #[]
  methods := #[]
  instanceTypes := #[]
  staticTypes := #[]
  resolved := Array.replicate 37 none
  statics := none }

def pool19 : Array CpInfo := pool [(2, .class_ 4), (1, u "java/lang/Object"), (0, u "<init>"), (0, u "()V"), (3, .class_ 12), (1, u "java/lang/String"), (0, u "value"), (0, u "[B"), (2, u "coder"), (0, u "B"), (2, u "hash"), (0, u "I"), (2, u "hashIsZero"), (0, u "Z"), (13, u "COMPACT_STRINGS"), (534, .class_ 576), (0, u "java/lang/CharSequence"), (22, u "CASE_INSENSITIVE_ORDER"), (0, u "Ljava/util/Comparator;"), (500, u "serialPersistentFields"), (0, u "[Ljava/io/ObjectStreamField;"), (0, .class_ 1104), (0, u "java/lang/String$CaseInsensitiveComparator"), (1, .class_ 1107), (0, u "java/io/Serializable"), (0, .class_ 1109), (0, u "java/lang/Comparable"), (0, .class_ 1111), (0, u "java/lang/constant/Constable"), (0, .class_ 1113), (0, u "java/lang/constant/ConstantDesc"), (2, u "serialVersionUID"), (0, u "J"), (3, u "REPL"), (0, u "C"), (2, u "LATIN1"), (1, u "UTF16")] 323

def k19m0 : Method := { name := "<init>", desc := "()V", sig := { parameters := [], returnType := none }, accessFlags := 1, code := none }
/-- java/lang/String -/
def k19 : Class := { plain "java/lang/String" (some 0) with
  accessFlags := 49
  interfaces := #[8, 3, 17, 10, 18]
  cf := some (fileOf pool19 10 #[.nestMembers #[1103]] #[{ accessFlags := 1, nameIndex := 5, descriptorIndex := 6, attributes := #[] }] 49 2 #[1106, 1108, 575, 1110, 1112] #[{ accessFlags := 18, nameIndex := 13, descriptorIndex := 14, attributes := #[] }, { accessFlags := 18, nameIndex := 17, descriptorIndex := 18, attributes := #[] }, { accessFlags := 2, nameIndex := 21, descriptorIndex := 22, attributes := #[] }, { accessFlags := 2, nameIndex := 25, descriptorIndex := 26, attributes := #[] }, { accessFlags := 26, nameIndex := 1116, descriptorIndex := 1117, attributes := #[] }, { accessFlags := 24, nameIndex := 40, descriptorIndex := 26, attributes := #[] }, { accessFlags := 26, nameIndex := 1101, descriptorIndex := 1102, attributes := #[] }, { accessFlags := 26, nameIndex := 1121, descriptorIndex := 1122, attributes := #[] }, { accessFlags := 25, nameIndex := 599, descriptorIndex := 600, attributes := #[] }, { accessFlags := 24, nameIndex := 1125, descriptorIndex := 18, attributes := #[] }, { accessFlags := 24, nameIndex := 1127, descriptorIndex := 18, attributes := #[] }])
  fields := #[{ name := "value", type := (.array .byte), accessFlags := 18, slot := 0, constantValue := 0 }, { name := "coder", type := .byte, accessFlags := 18, slot := 1, constantValue := 0 }, { name := "hash", type := .int, accessFlags := 2, slot := 2, constantValue := 0 }, { name := "hashIsZero", type := .boolean, accessFlags := 2, slot := 3, constantValue := 0 }, { name := "serialVersionUID", type := .long, accessFlags := 26, slot := 0, constantValue := 0 }, { name := "COMPACT_STRINGS", type := .boolean, accessFlags := 24, slot := 1, constantValue := 0 }, { name := "serialPersistentFields", type := (.array (.object "java/io/ObjectStreamField")), accessFlags := 26, slot := 2, constantValue := 0 }, { name := "REPL", type := .char, accessFlags := 26, slot := 3, constantValue := 0 }, { name := "CASE_INSENSITIVE_ORDER", type := (.object "java/util/Comparator"), accessFlags := 25, slot := 4, constantValue := 0 }, { name := "LATIN1", type := .byte, accessFlags := 24, slot := 5, constantValue := 0 }, { name := "UTF16", type := .byte, accessFlags := 24, slot := 6, constantValue := 0 }]
  methods := #[k19m0]
  instanceTypes := #[(.array .byte), .byte, .int, .boolean]
  staticTypes := #[.long, .boolean, (.array (.object "java/io/ObjectStreamField")), .char, (.object "java/util/Comparator"), .byte, .byte]
  resolved := Array.replicate 1451 none
  statics := none }

def pool20 : Array CpInfo := pool [(1, .class_ 2), (0, u "java/time/temporal/TemporalAmount"), (0, .class_ 4), (0, u "java/lang/Object")] 11

/-- java/time/temporal/TemporalAmount -/
def k20 : Class := { plain "java/time/temporal/TemporalAmount" (some 0) with
  accessFlags := 1537
  interfaces := #[]
  cf := some (fileOf pool20 1 #[] #[] 1537 3 #[] #[])
  fields := #[]
  methods := #[]
  instanceTypes := #[]
  staticTypes := #[]
  resolved := Array.replicate 16 none
  statics := none }

def pool21 : Array CpInfo := pool [(11, .class_ 13), (1, u "java/time/Duration"), (20, u "ZERO"), (0, u "Ljava/time/Duration;"), (13, .class_ 51), (1, u "java/time/temporal/TemporalAmount"), (27, .class_ 81), (1, u "java/time/Duration$Lazy"), (35, u "seconds"), (101, .class_ 220), (0, u "java/lang/Object"), (2, u "J"), (2, u "nanos"), (0, u "I"), (11, .class_ 241), (1, u "java/time/Duration$DurationUnits"), (27, .class_ 271), (1, u "java/time/Duration$1"), (91, u "BI_NANOS_PER_SECOND"), (0, u "Ljava/math/BigInteger;"), (120, .class_ 486), (0, u "java/lang/Comparable"), (0, .class_ 488), (0, u "java/io/Serializable"), (0, u "serialVersionUID")] 166

/-- java/time/Duration -/
def k21 : Class := { plain "java/time/Duration" (some 0) with
  accessFlags := 49
  interfaces := #[20, 3, 8]
  cf := some (fileOf pool21 11 #[.nestMembers #[269, 239, 79]] #[] 49 219 #[49, 485, 487] #[{ accessFlags := 25, nameIndex := 34, descriptorIndex := 35, attributes := #[] }, { accessFlags := 26, nameIndex := 489, descriptorIndex := 223, attributes := #[] }, { accessFlags := 26, nameIndex := 363, descriptorIndex := 364, attributes := #[] }, { accessFlags := 18, nameIndex := 117, descriptorIndex := 223, attributes := #[] }, { accessFlags := 18, nameIndex := 226, descriptorIndex := 227, attributes := #[] }])
  fields := #[{ name := "ZERO", type := (.object "java/time/Duration"), accessFlags := 25, slot := 0, constantValue := 0 }, { name := "serialVersionUID", type := .long, accessFlags := 26, slot := 1, constantValue := 0 }, { name := "BI_NANOS_PER_SECOND", type := (.object "java/math/BigInteger"), accessFlags := 26, slot := 2, constantValue := 0 }, { name := "seconds", type := .long, accessFlags := 18, slot := 0, constantValue := 0 }, { name := "nanos", type := .int, accessFlags := 18, slot := 1, constantValue := 0 }]
  methods := #[]
  instanceTypes := #[.long, .int]
  staticTypes := #[(.object "java/time/Duration"), .long, (.object "java/math/BigInteger")]
  resolved := Array.replicate 656 none
  statics := none }

def pool22 : Array CpInfo := pool [(1, u "java/lang/Cloneable"), (0, .class_ 1), (0, u "java/lang/Object"), (0, .class_ 3)] 3

/-- java/lang/Cloneable -/
def k22 : Class := { plain "java/lang/Cloneable" (some 0) with
  accessFlags := 1537
  interfaces := #[]
  cf := some (fileOf pool22 2 #[] #[] 1537 4 #[] #[])
  fields := #[]
  methods := #[]
  instanceTypes := #[]
  staticTypes := #[]
  resolved := Array.replicate 8 none
  statics := none }

/-- the primitive byte -/
def k23 : Class := { plain "byte" none with kind := .primitive 'B', accessFlags := 0x411 }
/-- [B -/
def k24 : Class := { plain "[B" (some 0) with kind := .array 23 .byte, interfaces := #[22, 8], accessFlags := 1041 }

/-- the primitive int -/
def k25 : Class := { plain "int" none with kind := .primitive 'I', accessFlags := 0x411 }
/-- [I -/
def k26 : Class := { plain "[I" (some 0) with kind := .array 25 .int, interfaces := #[22, 8], accessFlags := 1041 }

def heap : Heap := #[{ cls := 13, slots := #[.null, .null, .null, .null, .null, .null, .null, .null, .null, .null, .null, .null, .null, .null, .null, .null, .null, .null, .null, .null, .null, .null, .null, .ref 10, .null, .null, .ref 9, .null, .null, .null, .null], vm := .statics 13 },
  { cls := 16, slots := #[.null, .null, .null, .null, .null, .null, .null, .null, .null, .ref 6, .ref 4, .null, .null, .null, .null, .ref 5, .null], vm := .statics 16 },
  { cls := 19, slots := #[.null, .int 0, .int 0, .int 0], vm := .none },
  { cls := 21, slots := #[.long 0, .int 0], vm := .none },
  { cls := 16, slots := #[.ref 2, .int 10, .int 0, .ref 2, .ref 3], vm := .none },
  { cls := 16, slots := #[.ref 2, .int 15, .int 0, .ref 2, .ref 3], vm := .none },
  { cls := 16, slots := #[.ref 2, .int 9, .int 0, .ref 2, .ref 3], vm := .none },
  { cls := 14, slots := #[.long (-999999999), .long (-999999999), .long 999999999, .long 999999999], vm := .none },
  { cls := 14, slots := #[.long 1, .long 1, .long 12, .long 12], vm := .none },
  { cls := 13, slots := #[.ref 2, .int 26, .int 0, .ref 2, .ref 4, .ref 5, .ref 7, .ref 2], vm := .none },
  { cls := 13, slots := #[.ref 2, .int 23, .int 0, .ref 2, .ref 6, .ref 4, .ref 8, .ref 2], vm := .none }]
def classes : Array Class := #[k0, k1, k2, k3, k4, k5, k6, k7, k8, k9, k10, k11, k12, k13, k14, k15, k16, k17, k18, k19, k20, k21, k22, k23, k24, k25, k26]
def interned : List (Array UInt16 × Addr) := []
def slotsUsed : Nat := 93
def theMethod : MethodId := ⟨1, 2⟩
def args0 : Array Value := #[.int 5, .int 6]
def aboutOver (below : List Frame) : State where
  vm := { classes := classes, interned := interned.toArray }
  heap := heap
  slotsUsed := slotsUsed
  threads := #[{ frames := .invoking theMethod args0 :: below }]
def below0 : List Frame := [.native { method := ⟨0, 0⟩, args := #[] }]
def about1 : State := aboutOver below0
def p0 : Program := .bare "" "" ""
def e0 : Env := launch0.env 0 0 0
theorem w_frames : about1.frames = Frame.invoking theMethod args0 :: below0 := rfl
set_option maxRecDepth 65536 in
theorem w_args : argsFit about1.vm theMethod args0 = true := by decide +kernel
set_option maxRecDepth 65536 in
theorem w_heap : heapFits about1 = true := by decide +kernel
set_option maxRecDepth 65536 in
theorem w_runnable : about1.curStatus? = some .runnable := by decide +kernel
set_option maxRecDepth 65536 in
theorem w_alone : about1.alone = true := by decide +kernel
set_option maxRecDepth 65536 in
theorem w_named : about1.methodNamed? x = some theMethod := by decide +kernel
set_option maxRecDepth 65536 in
theorem w_hears : about1.hears theMethod below0 = true := by decide +kernel
set_option maxRecDepth 65536 in
theorem w_ripe : about1.ripe theMethod args0 below0 = true := by decide +kernel
theorem w_running : about1.status = .running := rfl
set_option maxRecDepth 65536 in
theorem w_room : about1.hasRoom e0.platform room_1 = true :=
  launch0.hasRoom_least _ room_1 (by decide +kernel) (by decide +kernel) (by decide +kernel) (by decide +kernel) (by decide +kernel) (by decide +kernel)
theorem allAtoms_all (ts : List Jvm.Cond) (a : Array Jvm.Value) (st : Jvm.State) : (allAtoms ts).before a st = ts.all (fun c => c.before a st) := by
  induction ts with
  | nil => rfl
  | cons c t ih =>
    show (Jvm.Cond.and c (allAtoms t)).before a st = _
    rw [Jvm.Cond.before_and, ih, List.all_cons]
def words1 : List Jvm.Cond := Jvm.Cond.code x code maxLocals ret :: tables_1
/-- a 'code' word, met by the world's own term for the bytes: nothing is compared byte by byte -/
theorem code_word {y : MethodName} {bytes : ByteArray} {mx : Nat} {rt : Option FieldType} {a : Array Value} {s : State} {m : MethodId} {meth : Method} {c : Code} (h1 : s.methodNamed? y = some m) (h2 : s.vm.method? m = some meth) (h3 : meth.code = some c) (h4 : c.code = bytes)
    (h5 : (c.maxLocals == mx && c.exceptionTable.isEmpty && decide (c.maxStack ≤ mostOperands) && decide (meth.sig.returnType = rt) && !meth.locks && decide (parseMethodDescriptor y.desc = some meth.sig)) = true) : (Jvm.Cond.code y bytes mx rt).before a s = true := by
  simp only [Bool.and_eq_true, beq_iff_eq, Bool.not_eq_true', decide_eq_true_eq] at h5
  obtain ⟨⟨⟨⟨⟨g1, g2⟩, g3⟩, g4⟩, g5⟩, g6⟩ := h5
  simp [Cond.before, Cond.holds, Cond.value, h1, h2, h3, h4, g1, g2, g3, g4, g5, g6]
def isCode : Jvm.Cond → Bool
  | .code _ _ _ _ => true
  | _ => false
theorem all_split {L : List Jvm.Cond} {P : Jvm.Cond → Bool} (h1 : L.all (fun c => isCode c || P c) = true) (h2 : ∀ c ∈ L.filter isCode, P c = true) : L.all P = true := by
  refine List.all_eq_true.mpr fun c hc => ?_
  have h := List.all_eq_true.mp h1 c hc
  rcases Bool.eq_false_or_eq_true (isCode c) with hi | hi
  · exact h2 c (List.mem_filter.mpr ⟨hc, hi⟩)
  · simpa [hi] using h
set_option maxRecDepth 65536 in
theorem w_c0 : (Jvm.Cond.code x code maxLocals ret).before args0 about1 = true := code_word (m := ⟨1, 2⟩) (meth := k1m2) (c := k1c2) (by decide +kernel) rfl rfl rfl (by decide +kernel)
set_option maxRecDepth 65536 in
theorem w_c1 : (Jvm.Cond.code ({ cls := "com/example/voce/voce/Quarter", name := "<init>", desc := "(II)V" } : Jvm.MethodName) prog_19_method_1_code (3 : Nat) (Option.none : Option Jvm.ClassFile.FieldType)).before args0 about1 = true := code_word (m := ⟨4, 0⟩) (meth := k4m0) (c := k4c0) (by decide +kernel) rfl rfl rfl (by decide +kernel)
set_option maxRecDepth 65536 in
theorem w_c2 : (Jvm.Cond.code ({ cls := "java/lang/Record", name := "<init>", desc := "()V" } : Jvm.MethodName) jdk_30_method_1_code (1 : Nat) (Option.none : Option Jvm.ClassFile.FieldType)).before args0 about1 = true := code_word (m := ⟨2, 0⟩) (meth := k2m0) (c := k2c0) (by decide +kernel) rfl rfl rfl (by decide +kernel)
set_option maxRecDepth 65536 in
theorem w_c3 : (Jvm.Cond.code ({ cls := "java/lang/Object", name := "<init>", desc := "()V" } : Jvm.MethodName) object_method_1_code (1 : Nat) (Option.none : Option Jvm.ClassFile.FieldType)).before args0 about1 = true := code_word (m := ⟨0, 0⟩) (meth := k0m0) (c := k0c0) (by decide +kernel) rfl rfl rfl (by decide +kernel)
set_option maxRecDepth 65536 in
theorem w_c4 : (Jvm.Cond.code ({ cls := "com/example/voce/voce/Quarter", name := "firstMonth", desc := "()Ljava/time/YearMonth;" } : Jvm.MethodName) prog_19_method_4_code (1 : Nat) (Option.some (Jvm.ClassFile.FieldType.object "java/time/YearMonth"))).before args0 about1 = true := code_word (m := ⟨4, 1⟩) (meth := k4m1) (c := k4c1) (by decide +kernel) rfl rfl rfl (by decide +kernel)
set_option maxRecDepth 65536 in
theorem w_c5 : (Jvm.Cond.code ({ cls := "java/time/YearMonth", name := "of", desc := "(II)Ljava/time/YearMonth;" } : Jvm.MethodName) jdk_2340_method_5_code (2 : Nat) (Option.some (Jvm.ClassFile.FieldType.object "java/time/YearMonth"))).before args0 about1 = true := code_word (m := ⟨9, 0⟩) (meth := k9m0) (c := k9c0) (by decide +kernel) rfl rfl rfl (by decide +kernel)
set_option maxRecDepth 65536 in
theorem w_c6 : (Jvm.Cond.code ({ cls := "java/time/temporal/ChronoField", name := "checkValidValue", desc := "(J)J" } : Jvm.MethodName) jdk_2395_method_11_code (3 : Nat) (Option.some Jvm.ClassFile.FieldType.long)).before args0 about1 = true := code_word (m := ⟨13, 1⟩) (meth := k13m1) (c := k13c1) (by decide +kernel) rfl rfl rfl (by decide +kernel)
set_option maxRecDepth 65536 in
theorem w_c7 : (Jvm.Cond.code ({ cls := "java/time/temporal/ChronoField", name := "range", desc := "()Ljava/time/temporal/ValueRange;" } : Jvm.MethodName) jdk_2395_method_8_code (1 : Nat) (Option.some (Jvm.ClassFile.FieldType.object "java/time/temporal/ValueRange"))).before args0 about1 = true := code_word (m := ⟨13, 0⟩) (meth := k13m0) (c := k13c0) (by decide +kernel) rfl rfl rfl (by decide +kernel)
set_option maxRecDepth 65536 in
theorem w_c8 : (Jvm.Cond.code ({ cls := "java/time/temporal/ValueRange", name := "checkValidValue", desc := "(JLjava/time/temporal/TemporalField;)J" } : Jvm.MethodName) jdk_2423_method_13_code (4 : Nat) (Option.some Jvm.ClassFile.FieldType.long)).before args0 about1 = true := code_word (m := ⟨14, 3⟩) (meth := k14m3) (c := k14c3) (by decide +kernel) rfl rfl rfl (by decide +kernel)
set_option maxRecDepth 65536 in
theorem w_c9 : (Jvm.Cond.code ({ cls := "java/time/temporal/ValueRange", name := "isValidValue", desc := "(J)Z" } : Jvm.MethodName) jdk_2423_method_11_code (3 : Nat) (Option.some Jvm.ClassFile.FieldType.boolean)).before args0 about1 = true := code_word (m := ⟨14, 2⟩) (meth := k14m2) (c := k14c2) (by decide +kernel) rfl rfl rfl (by decide +kernel)
set_option maxRecDepth 65536 in
theorem w_c10 : (Jvm.Cond.code ({ cls := "java/time/temporal/ValueRange", name := "getMinimum", desc := "()J" } : Jvm.MethodName) jdk_2423_method_6_code (1 : Nat) (Option.some Jvm.ClassFile.FieldType.long)).before args0 about1 = true := code_word (m := ⟨14, 0⟩) (meth := k14m0) (c := k14c0) (by decide +kernel) rfl rfl rfl (by decide +kernel)
set_option maxRecDepth 65536 in
theorem w_c11 : (Jvm.Cond.code ({ cls := "java/time/temporal/ValueRange", name := "getMaximum", desc := "()J" } : Jvm.MethodName) jdk_2423_method_9_code (1 : Nat) (Option.some Jvm.ClassFile.FieldType.long)).before args0 about1 = true := code_word (m := ⟨14, 1⟩) (meth := k14m1) (c := k14c1) (by decide +kernel) rfl rfl rfl (by decide +kernel)
set_option maxRecDepth 65536 in
theorem w_c12 : (Jvm.Cond.code ({ cls := "java/time/YearMonth", name := "<init>", desc := "(II)V" } : Jvm.MethodName) jdk_2340_method_9_code (3 : Nat) (Option.none : Option Jvm.ClassFile.FieldType)).before args0 about1 = true := code_word (m := ⟨9, 1⟩) (meth := k9m1) (c := k9c1) (by decide +kernel) rfl rfl rfl (by decide +kernel)
set_option maxRecDepth 65536 in
theorem w_c13 : (Jvm.Cond.code ({ cls := "java/time/YearMonth", name := "getYear", desc := "()I" } : Jvm.MethodName) jdk_2340_method_17_code (1 : Nat) (Option.some Jvm.ClassFile.FieldType.int)).before args0 about1 = true := code_word (m := ⟨9, 2⟩) (meth := k9m2) (c := k9c2) (by decide +kernel) rfl rfl rfl (by decide +kernel)
set_option maxRecDepth 65536 in
theorem w_c14 : (Jvm.Cond.code ({ cls := "java/time/YearMonth", name := "getMonthValue", desc := "()I" } : Jvm.MethodName) jdk_2340_method_18_code (1 : Nat) (Option.some Jvm.ClassFile.FieldType.int)).before args0 about1 = true := code_word (m := ⟨9, 3⟩) (meth := k9m3) (c := k9c3) (by decide +kernel) rfl rfl rfl (by decide +kernel)
set_option maxRecDepth 65536 in
theorem w_c15 : (Jvm.Cond.code ({ cls := "com/example/voce/voce/QuarterFirstMonthPinLaw", name := "expectedMonth", desc := "(I)I" } : Jvm.MethodName) method_2_code (1 : Nat) (Option.some Jvm.ClassFile.FieldType.int)).before args0 about1 = true := code_word (m := ⟨1, 1⟩) (meth := k1m1) (c := k1c1) (by decide +kernel) rfl rfl rfl (by decide +kernel)
def codes1 : List Jvm.Cond := [Jvm.Cond.code x code maxLocals ret, Jvm.Cond.code ({ cls := "com/example/voce/voce/Quarter", name := "<init>", desc := "(II)V" } : Jvm.MethodName) prog_19_method_1_code (3 : Nat) (Option.none : Option Jvm.ClassFile.FieldType), Jvm.Cond.code ({ cls := "java/lang/Record", name := "<init>", desc := "()V" } : Jvm.MethodName) jdk_30_method_1_code (1 : Nat) (Option.none : Option Jvm.ClassFile.FieldType), Jvm.Cond.code ({ cls := "java/lang/Object", name := "<init>", desc := "()V" } : Jvm.MethodName) object_method_1_code (1 : Nat) (Option.none : Option Jvm.ClassFile.FieldType), Jvm.Cond.code ({ cls := "com/example/voce/voce/Quarter", name := "firstMonth", desc := "()Ljava/time/YearMonth;" } : Jvm.MethodName) prog_19_method_4_code (1 : Nat) (Option.some (Jvm.ClassFile.FieldType.object "java/time/YearMonth")), Jvm.Cond.code ({ cls := "java/time/YearMonth", name := "of", desc := "(II)Ljava/time/YearMonth;" } : Jvm.MethodName) jdk_2340_method_5_code (2 : Nat) (Option.some (Jvm.ClassFile.FieldType.object "java/time/YearMonth")), Jvm.Cond.code ({ cls := "java/time/temporal/ChronoField", name := "checkValidValue", desc := "(J)J" } : Jvm.MethodName) jdk_2395_method_11_code (3 : Nat) (Option.some Jvm.ClassFile.FieldType.long), Jvm.Cond.code ({ cls := "java/time/temporal/ChronoField", name := "range", desc := "()Ljava/time/temporal/ValueRange;" } : Jvm.MethodName) jdk_2395_method_8_code (1 : Nat) (Option.some (Jvm.ClassFile.FieldType.object "java/time/temporal/ValueRange")), Jvm.Cond.code ({ cls := "java/time/temporal/ValueRange", name := "checkValidValue", desc := "(JLjava/time/temporal/TemporalField;)J" } : Jvm.MethodName) jdk_2423_method_13_code (4 : Nat) (Option.some Jvm.ClassFile.FieldType.long), Jvm.Cond.code ({ cls := "java/time/temporal/ValueRange", name := "isValidValue", desc := "(J)Z" } : Jvm.MethodName) jdk_2423_method_11_code (3 : Nat) (Option.some Jvm.ClassFile.FieldType.boolean), Jvm.Cond.code ({ cls := "java/time/temporal/ValueRange", name := "getMinimum", desc := "()J" } : Jvm.MethodName) jdk_2423_method_6_code (1 : Nat) (Option.some Jvm.ClassFile.FieldType.long), Jvm.Cond.code ({ cls := "java/time/temporal/ValueRange", name := "getMaximum", desc := "()J" } : Jvm.MethodName) jdk_2423_method_9_code (1 : Nat) (Option.some Jvm.ClassFile.FieldType.long), Jvm.Cond.code ({ cls := "java/time/YearMonth", name := "<init>", desc := "(II)V" } : Jvm.MethodName) jdk_2340_method_9_code (3 : Nat) (Option.none : Option Jvm.ClassFile.FieldType), Jvm.Cond.code ({ cls := "java/time/YearMonth", name := "getYear", desc := "()I" } : Jvm.MethodName) jdk_2340_method_17_code (1 : Nat) (Option.some Jvm.ClassFile.FieldType.int), Jvm.Cond.code ({ cls := "java/time/YearMonth", name := "getMonthValue", desc := "()I" } : Jvm.MethodName) jdk_2340_method_18_code (1 : Nat) (Option.some Jvm.ClassFile.FieldType.int), Jvm.Cond.code ({ cls := "com/example/voce/voce/QuarterFirstMonthPinLaw", name := "expectedMonth", desc := "(I)I" } : Jvm.MethodName) method_2_code (1 : Nat) (Option.some Jvm.ClassFile.FieldType.int)]
set_option maxRecDepth 65536 in
theorem codes_eq : words1.filter isCode = codes1 := rfl
theorem w_codes : ∀ c ∈ words1.filter isCode, c.before args0 about1 = true := by
  rw [codes_eq]
  intro c hc
  simp only [codes1, List.mem_cons, List.not_mem_nil, or_false] at hc
  rcases hc with rfl | rfl | rfl | rfl | rfl | rfl | rfl | rfl | rfl | rfl | rfl | rfl | rfl | rfl | rfl | rfl
  · exact w_c0
  · exact w_c1
  · exact w_c2
  · exact w_c3
  · exact w_c4
  · exact w_c5
  · exact w_c6
  · exact w_c7
  · exact w_c8
  · exact w_c9
  · exact w_c10
  · exact w_c11
  · exact w_c12
  · exact w_c13
  · exact w_c14
  · exact w_c15
set_option maxRecDepth 65536 in
theorem w_t1 : (words1.take 24).all (fun c => isCode c || c.before args0 about1) = true := by decide +kernel
set_option maxRecDepth 65536 in
theorem w_t2 : ((words1.drop 24).take 24).all (fun c => isCode c || c.before args0 about1) = true := by decide +kernel
set_option maxRecDepth 65536 in
theorem w_t3 : (((words1.drop 24).drop 24).take 24).all (fun c => isCode c || c.before args0 about1) = true := by decide +kernel
set_option maxRecDepth 65536 in
theorem w_t4 : (((words1.drop 24).drop 24).drop 24).all (fun c => isCode c || c.before args0 about1) = true := by decide +kernel
theorem w_tables : (allAtoms (Jvm.Cond.code x code maxLocals ret :: tables_1)).before args0 about1 = true := by
  rw [allAtoms_all]
  show words1.all (fun c => c.before args0 about1) = true
  refine all_split ?_ w_codes
  rw [← List.take_append_drop 24 words1, List.all_append, w_t1, ← List.take_append_drop 24 (words1.drop 24), List.all_append, w_t2, ← List.take_append_drop 24 ((words1.drop 24).drop 24), List.all_append, w_t3, w_t4]
  rfl
set_option maxRecDepth 65536 in
theorem w_rest : rest_1_c.before args0 about1 = true := by decide +kernel
set_option maxRecDepth 65536 in
theorem w_case : (Jvm.Cond.and given_1 narrow_1).before args0 about1 = true := by decide +kernel
theorem w_applies : (headSpec (Jvm.Cond.code x code maxLocals ret :: tables_1) room_1).applies x e0.platform about1 = true :=
  (Spec.applies_iff w_frames).mpr ⟨w_running, w_runnable, w_alone, w_named, w_hears, w_ripe, w_room, w_tables⟩
theorem atStart : AtStart classFile x code maxLocals ret World_1 tables_1 room_1 Calls_1 rest_1 Pre_1 launch0 p0 e0 about1 theMethod args0 below0 :=
  ⟨lists_1, trivial, launch0.admits_env _ _ _, launch0.least_env, fairChoices_fair.cas, fairChoices_fair.clock, w_frames, w_args, w_heap, w_applies, trivial, w_rest, w_case⟩
end start1
theorem witness_1 : WitnessClaimed_1 := ⟨start1.p0, start1.e0, start1.about1, start1.theMethod, start1.args0, start1.below0, start1.atStart⟩
end Jvm.Pilot.@@N@@
