import JvmDerived
import JvmDerived.Pilot.@@N@@Statement
import JvmDerived.Pilot.@@N@@Code
set_option linter.unusedVariables false
set_option linter.unusedSimpArgs false
@@BLOCK:LamKit.lean.txt@@
namespace Jvm.Pilot.@@N@@
open Jvm Jvm.ClassFile Sem Op Lib Jvm.Free Jvm.Stand Jvm.LawKit Jvm.RoadKit Bundle Jvm.Pilot.@@N@@.Jvm.D
theorem own_w {Z : State} {a0 : Array Value} {d : Jvm.Cond} (hw : ∀ d ∈ tables_1, d.before a0 Z = true) (i : Nat) (h : tables_1[i]? = some d) : d.before a0 Z = true := hw d (List.mem_of_getElem? h)
section OwnKit
variable {p : Program} {l : Launch} {e : Env} {R : Room} {s : State} {m : MethodId} {args : Array Value} {below : List Frame} {meth : Method} {c : Code} {T : State} {locs : List Loc} {cells slots : Nat}
/-- the run from S comes to an end of which Q holds -/
def own_Go (p : Program) (e : Env) (below : List Frame) (Q : Outcome → State → Prop) (S : State) : Prop := ∃ s₂ o, Steps p.tables e below S s₂ ∧ s₂.status = .running ∧ Ended s₂ below o ∧ Q o s₂
theorem own_via {Q : Outcome → State → Prop} {A B : State} (h : ∀ t, Steps p.tables e below B t → Steps p.tables e below A t) (g : own_Go p e below Q B) : own_Go p e below Q A := by
  obtain ⟨s2, o, h1, r⟩ := g
  exact ⟨s2, o, h _ h1, r⟩
theorem own_seq {Q : Outcome → State → Prop} {A B : State} (h : own_Go p e below Q B → own_Go p e below Q A) (k : own_Go p e below Q B) : own_Go p e below Q A := h k
theorem own_cast {Q : Outcome → State → Prop} {g g' : JFrame} (q : g = g') (k : own_Go p e below Q (T.setTop g')) : own_Go p e below Q (T.setTop g) := q ▸ k
theorem own_keep_mono {h0 h : Heap} {ws ws' : List Addr} (K : Keep h0 h ws) (q : ∀ x ∈ ws, x ∈ ws') : Keep h0 h ws' := ⟨K.1, fun x c a b => K.2.1 x c a fun z => b (q x z), K.2.2⟩
theorem own_ret0 {Qv : Option Value → Heap → List Loc → Prop} {kc ks : Nat} (X : Stand p l e R s m args below meth c T locs cells slots) (hlocks : meth.locks = false) (hx : p.tables.exec = Jvm.exec) {pc : Nat} {Ls : Array Slot} (hret : meth.sig.returnType = none) (hd : decode c.code pc = .ok (.return_, 1)) (hk : cells ≤ kc) (hs : slots ≤ ks) (hQ : Qv none T.heap locs) :
    own_Go p e below (fun o U' => ∃ v L, o = .returned v ∧ Qv v U'.heap L ∧ FrameEnd s o U' L kc ks) (T.setTop (mkF m pc Ls [])) := by
  obtain ⟨fs, hr, hrun, hended, hW, hsame⟩ := X.leave (v := none) (fun _ => rfl) hlocks
  exact ⟨_, _, X.returnOut hx hret hd hr, hrun, hended, _, _, rfl, hQ, ⟨_, rfl⟩, hW, hsame.mono hk hs⟩
theorem own_retv {Qv : Option Value → Heap → List Loc → Prop} {kc ks : Nat} (X : Stand p l e R s m args below meth c T locs cells slots) (hlocks : meth.locks = false) (hx : p.tables.exec = Jvm.exec) {pc : Nat} {Ls : Array Slot} {w : Value} {t : FieldType} {i : Instr} {rest : List Value} (hret : meth.sig.returnType = some t) (hn : narrow t w = w)
    (hi : (i = .ireturn ∧ (t = .int ∨ t = .boolean ∨ t = .byte ∨ t = .char ∨ t = .short) ∧ ∃ z, w = .int z) ∨ (i = .lreturn ∧ t = .long ∧ ∃ z, w = .long z) ∨ (i = .dreturn ∧ t = .double ∧ ∃ z, w = .double z) ∨ (i = .freturn ∧ t = .float ∧ ∃ z, w = .float z) ∨ (i = .areturn ∧ t.isReference = true ∧ w.isRef = true))
    (hd : decode c.code pc = .ok (i, 1)) (hk : cells ≤ kc) (hs : slots ≤ ks) (hQ : Qv (some w) T.heap locs) :
    own_Go p e below (fun o U' => ∃ v L, o = .returned v ∧ Qv v U'.heap L ∧ FrameEnd s o U' L kc ks) (T.setTop (mkF m pc Ls (w :: rest))) := by
  obtain ⟨fs, hr, hrun, hended, hW, hsame⟩ := X.leave (v := some w) (fun h => by rw [hret] at h; cases h) hlocks
  exact ⟨_, _, retOut X hx hret hn hi hd hr, hrun, hended, _, _, rfl, hQ, ⟨_, rfl⟩, hW, hsame.mono hk hs⟩
theorem own_pop2L {tb : Tables} [Ours tb] {e : Env} {below : List Frame} {T target : State} {m : MethodId} {c : Code} {g : JFrame} (h : At T m c below) (hx : tb.exec = Jvm.exec) (hg : g.method = m) {x : Int64} {rest : List Value} (hd : decode c.code g.pc = .ok (.pop2, 1)) (hs : g.stack = .long x :: rest)
    (hr : Steps tb e below (T.setTop { g with pc := g.pc + 1, stack := rest }) target) : Steps tb e below (T.setTop g) target := by
  subst hg
  jvm_step h [h.top, hx, hd, hs, Value.category]
  exact hr
theorem own_narR {t : FieldType} {w : Value} (h : w.isRef = true) : narrow t w = w := by
  rcases ref_cases h with rfl | ⟨y, rfl⟩ <;> cases t <;> rfl
theorem own_fitR {C : String} {w : Value} (h : w.isRef = true) : fits (.object C) w = true := by
  rcases ref_cases h with rfl | ⟨y, rfl⟩ <;> rfl
theorem own_fitA {t : FieldType} {w : Value} (h : w.isRef = true) : fits (.array t) w = true := by
  rcases ref_cases h with rfl | ⟨y, rfl⟩ <;> rfl
end OwnKit

theorem own_InsKeep {Z : State} {h h' : Heap} {a : Addr} {C : String} {ws : List Addr} (F : Ins Z h a C true) (K : Keep h h' ws) : Ins Z h' a C true := by
  obtain ⟨cell, cT, h1, h2, h3⟩ := F
  obtain ⟨c', g1, g2, g3, -⟩ := K.2.2 a cell h1
  exact ⟨c', cT, g1, h2, by rw [g2, g3]; exact h3⟩
theorem own_toInt {i : Nat} (h : i < 2 ^ 31) : (Int32.ofNat i).toInt = i := Int32.toInt_ofNat_small h
theorem own_clamp {i : Nat} (h : i < 2 ^ 31) : (Int32.ofNat i).toNatClampNeg = i := by
  show (Int32.ofNat i).toInt.toNat = i
  rw [own_toInt h]; omega
theorem own_eq {i j : Nat} (hi : i < 2 ^ 31) (hj : j < 2 ^ 31) : Int32.ofNat i = Int32.ofNat j ↔ i = j := by
  constructor
  · intro h
    have := congrArg Int32.toInt h
    rw [own_toInt hi, own_toInt hj] at this; omega
  · rintro rfl; rfl
theorem own_succ (i : Nat) : Int32.ofNat i + (1 : Int32) = Int32.ofNat (i + 1) := (Int32.ofNat_add i 1).symm
theorem own_inb10 {c : Cell} {i : Nat} (S : c.slots.size = (10 : Int32).toNatClampNeg) (hi : i < 10) : ¬ (Int32.ofNat i < 0 ∨ c.slots.size ≤ (Int32.ofNat i).toNatClampNeg) := by
  have e : (10 : Int32).toNatClampNeg = 10 := by decide
  rw [S, e, own_clamp (by omega)]
  rintro (q | q)
  · rw [Int32.lt_iff_toInt_lt, own_toInt (by omega)] at q
    have : (0 : Int32).toInt = 0 := rfl
    omega
  · omega
section OwnRef
variable {p : Program} {l : Launch} {e : Env} {R : Room} {s : State} {m : MethodId} {args : Array Value} {below : List Frame} {meth : Method} {c : Code} {T : State} {locs : List Loc} {cells slots : Nat} {Z : State} {a0 : Array Value}
theorem own_scallRef (hexec : p.tables.exec = Jvm.exec) {own : String} {index : Nat} {y : MethodName} (hy1 : y.name = "<init>") (hZ : Z.Warmed39 s.vm)
    (hown : s.vm.findClass own = some m.cls) (href : (Jvm.Cond.methodRef own index y).before a0 Z = true) (hinst : (Jvm.Cond.instanceMethod y).before args s = true)
    {bytes : ByteArray} {maxL : Nat} (hcode : (Jvm.Cond.code y bytes maxL none).before args s = true) (hy : y.cls ≠ "java/lang/invoke/MethodHandle" ∧ y.cls ≠ "java/lang/invoke/VarHandle") : SCall p l e R s m args below meth c index y :=
  SCall.of_ready hexec hy1 hinst hcode fun U r hU hn => by
    have hZU : Z.Warmed39 U.vm := wtrans hZ hU
    have hnZ : Z.methodNamed? y = some r := by
      rw [← State.methodNamed?_setVm hZ.alike y]; exact hn
    have hnU : (Z.setVm U.vm).methodNamed? y = some r := by
      rw [State.methodNamed?_setVm hZU.alike y]; exact hnZ
    have h1 := Cond.methodRef_warmed39 (args := a0) hZU hnZ hy href
    have ho : (Z.setVm U.vm).vm.findClass own = some m.cls := by
      show U.vm.findClass own = _
      rw [hU.alike.findClass]; exact hown
    obtain ⟨r', c', f1, f2, f3, f4⟩ := Cond.methodRef_named e ho h1
    cases (State.methodFound?_of_named hnU hy).symm.trans f1
    cases (findClass_of_methodNamed hnU).symm.trans f3
    exact ⟨f4, f2⟩
/-- a constructor by its contract, where the entry has been resolved before (a nest mate's) -/
theorem own_specialRef (X : Stand p l e R s m args below meth c T locs cells slots) (hexec : p.tables.exec = Jvm.exec) {own : String} {index : Nat} {y : MethodName} (hy1 : y.name = "<init>") (hZ : Z.Warmed39 s.vm)
    (hown : s.vm.findClass own = some m.cls) (href : (Jvm.Cond.methodRef own index y).before a0 Z = true) (hinst : (Jvm.Cond.instanceMethod y).before args s = true)
    {bytes : ByteArray} {maxL : Nat} (hcode : (Jvm.Cond.code y bytes maxL none).before args s = true) (hy : y.cls ≠ "java/lang/invoke/MethodHandle" ∧ y.cls ≠ "java/lang/invoke/VarHandle")
    {W : Nat} {Pre : Pt → Array Value → Prop} {Post : Pt → Array Value → Option Value → Pt → Prop} (hK : Back l R p e below s args y 3 W Pre Post)
    {g : JFrame} (hg : g.method = m) (hsize : g.locals.size = c.maxLocals) {a : Addr} {argsL rest : List Value}
    (hlen : ∀ sig, parseMethodDescriptor y.desc = some sig → argsL.length = sig.parameters.length) (hstack : g.stack = argsL.reverse ++ .ref a :: rest) (hW : 2 * g.monitorRoom + (rest.map fun v => v.category).sum ≤ W)
    (hdg : decode c.code g.pc = .ok (.invokespecial index, 3)) (hpre : ∀ vm₁, s.WarmedH vm₁ → Pre ⟨T.setVm vm₁, locs, cells, slots⟩ (.ref a :: argsL).toArray) :
    ∃ (v : Option Value) (vm₁ : Vm) (B : Pt), s.WarmedH vm₁ ∧ Stand p l e R s m args below meth c B.U B.locs B.cells B.slots ∧ Post ⟨T.setVm vm₁, locs, cells, slots⟩ (.ref a :: argsL).toArray v B ∧
      Steps p.tables e below (T.setTop g) (B.U.setTop { g with pc := g.pc + 3, stack := v.toList ++ rest }) := by
  have h := @own_scallRef p l e R s m args below meth c Z a0 hexec own index y hy1 hZ hown href hinst bytes maxL hcode hy
  unfold SCall at h
  exact h X hK hg hsize (Steps.refl _) hlen hstack hW hdg hpre
theorem own_selP {args' : Array Value} {y : MethodName} {n : Nat} (wi : (Jvm.Cond.instantiable y.cls n).before args' s = true) (hpriv : s.PrivateAt y) (hinst : (Jvm.Cond.instanceMethod y).before args s = true) (hy : y.cls ≠ "java/lang/invoke/MethodHandle" ∧ y.cls ≠ "java/lang/invoke/VarHandle") : (Jvm.Cond.selects y.cls y y).before args s = true := by
  obtain ⟨c, k, h1, h2, -, h4, -, -⟩ := Cond.instantiable_spec wi
  exact Jvm.Stand.selects_self_of_private h1 h2 (Bool.or_eq_false_iff.mp h4).1 hpriv hinst hy
theorem own_lamb (X : Stand p l e R s m args below meth c T locs cells slots) (hexec : p.tables.exec = Jvm.exec) (hZ : Z.Warmed39 s.vm) {x : MethodName} {pc index : Nat} {σ : Jvm.Lambda.Shape} (w : (Jvm.Cond.lambdaSite x pc index σ).before a0 Z = true) (hσ : σ.captured = []) (hn : s.methodNamed? x = some m) (hp : e.platform.lambdaLinkWords = 3072)
    {g : JFrame} (hg : g.method = m) (hsize : g.locals.size = c.maxLocals) (hpc : g.pc = pc) (hdg : decode c.code g.pc = .ok (.invokedynamic index, 5)) (hwords : 2 * g.monitorRoom + (g.stack.map fun v => v.category).sum + 3072 ≤ R.locals) :
    ∃ a, ∀ target, Steps p.tables e below (T.setTop { g with pc := g.pc + 5, stack := .ref a :: g.stack }) target → Steps p.tables e below (T.setTop g) target := by
  obtain ⟨cK, one, hat⟩ := Cond.lambdaSite_spec w
  obtain ⟨m', kS, cfS, i0, p0, lk, hm', hkS, -, -, -, hfind, -, -, hlk⟩ := State.lambdaAt?_spec hat
  have hnZ : Z.methodNamed? x = some m := by
    rw [← State.methodNamed?_setVm hZ.alike x]; exact hn
  cases hnZ.symm.trans hm'
  rcases hlk with ⟨a, cell, rfl, -⟩ | ⟨-, -, h⟩
  · obtain ⟨k', hk', he'⟩ := hZ.alike.2.2 _ _ hkS
    exact ⟨a, fun target hr => X.lambdaConstant hexec hg hsize hdg hk' (by rw [he', hpc]; exact hfind) (by rw [hp]; exact hwords) hr⟩
  · exact absurd hσ h
end OwnRef

theorem d14_0 : decode jdk_30_method_1_code 0 = .ok (.aload_n 0, 1) := by decide +kernel
theorem d14_1 : decode jdk_30_method_1_code 1 = .ok (.invokespecial 1, 3) := by decide +kernel
theorem d14_4 : decode jdk_30_method_1_code 4 = .ok (.return_, 1) := by decide +kernel
theorem pd_0 : parseMethodDescriptor "()V" = some ⟨[], none⟩ := by decide +kernel
theorem pn_java_lang_Record : plainName "java/lang/Record" = true := by first | (simp [plainName, overriddenIn]; done) | decide +kernel
theorem ef_rec (m : MethodId) (a1 : Addr) : entryFrame m #[(.ref a1)] 1 = mkF m 0 #[.val (.ref a1)] [] := by first | (simp [entryFrame, mkF, argsToLocals, Value.category]; done) | rfl
def Qrec (Z : State) (a1 : Addr) (h0 : Heap) (n0 : Nat) (v : Option Value) (h : Heap) (L : List Loc) : Prop := v = none ∧ Fr n0 L ∧ Keep h0 h []
set_option maxRecDepth 65536 in
set_option maxHeartbeats 40000000 in
theorem rmrec (l : Launch) (Z : State) (a0 : Array Value) (hw : ∀ d ∈ tables_1, d.before a0 Z = true) (ws : List Jvm.Cond) (a1 : Addr) (h0 : Heap) (n0 : Nat) (Z0 : n0 ≤ h0.size) :
    MetFree l (⟨"java/lang/Record", "<init>", "()V"⟩ : MethodName) (head1 (Jvm.Cond.code (⟨"java/lang/Record", "<init>", "()V"⟩ : MethodName) jdk_30_method_1_code 1 none :: ws) ({ frames := 1, cells := 0, slots := 0, locals := 12 } : Room)) (fun a U => a = #[(.ref a1)] ∧ Z.Warmed39 U.vm ∧ U.heap = h0) (fun _ _ _ _ _ => True) (fun _ U o U' => ∃ v L, o = .returned v ∧ Qrec Z a1 h0 n0 v U'.heap L ∧ FrameEnd U o U' L ({ frames := 1, cells := 0, slots := 0, locals := 12 } : Room).cells ({ frames := 1, cells := 0, slots := 0, locals := 12 } : Room).slots) := by
  refine MetFree.of_bodySF (plainFor_of_name pn_java_lang_Record) hisR ?_
  intro p e s m args below meth c s₁ Bd hml0 hP hK
  obtain ⟨rfl, hZ, hH0⟩ := hP
  have hx := Bd.exec
  have hby := Bd.bytes
  have hml : c.maxLocals = 1 := hml0
  have hown : s.vm.findClass "java/lang/Record" = some m.cls := findClass_of_methodNamed Bd.named
  have hnm := (name_of_methodNamed Bd.named Bd.method).1
  have X0 : Stand p l e ({ frames := 1, cells := 0, slots := 0, locals := 12 } : Room) s m #[(.ref a1)] below meth c s₁ [] 0 0 := Stand.of_body Bd
  have e0 : s₁.heap = h0 := by rw [← hH0, Bd.state]; rfl
  have N0 := Fr.nil n0
  refine own_cast (ef_rec m a1) ?_
  show own_Go p e below (fun o U' => ∃ v L, o = .returned v ∧ Qrec Z a1 h0 n0 v U'.heap L ∧ FrameEnd s o U' L ({ frames := 1, cells := 0, slots := 0, locals := 12 } : Room).cells ({ frames := 1, cells := 0, slots := 0, locals := 12 } : Room).slots) (s₁.setTop (mkF m 0 #[.val (.ref a1)] []))
  refine own_via (fun _ => XS.aloadN X0.here hx rfl (hb hby d14_0) rfl rfl) ?_
  show own_Go p e below _ (s₁.setTop (mkF m 1 #[.val (.ref a1)] [(.ref a1)]))
  obtain ⟨T_1, X_1, e_1, st_1⟩ := initO X0 hx hZ hown (own_w hw 90 rfl) (own_w hw 7 rfl) (own_w hw 8 rfl) e0 (g := (mkF m 1 #[.val (.ref a1)] [(.ref a1)])) rfl (by rw [hml]; rfl) rfl (hb hby d14_1) (by decide) (W := 0) (by show 2 * 0 + _ ≤ _; exact Nat.le_of_eq rfl) (by decide)
  refine own_via st_1 ?_
  show own_Go p e below _ (T_1.setTop (mkF m 4 #[.val (.ref a1)] []))
  exact own_ret0 X_1 Bd.notSynchronized hx Bd.returns (hb hby d14_4) (by decide) (by decide) (by rw [e_1]; exact ⟨rfl, N0, (Keep.refl h0 [])⟩)
theorem d8_0 : decode jdk_18_method_1_code 0 = .ok (.aload_n 0, 1) := by decide +kernel
theorem d8_1 : decode jdk_18_method_1_code 1 = .ok (.invokespecial 1, 3) := by decide +kernel
theorem d8_4 : decode jdk_18_method_1_code 4 = .ok (.return_, 1) := by decide +kernel
theorem pn_java_lang_Number : plainName "java/lang/Number" = true := by first | (simp [plainName, overriddenIn]; done) | decide +kernel
theorem ef_num (m : MethodId) (a1 : Addr) : entryFrame m #[(.ref a1)] 1 = mkF m 0 #[.val (.ref a1)] [] := by first | (simp [entryFrame, mkF, argsToLocals, Value.category]; done) | rfl
def Qnum (Z : State) (a1 : Addr) (h0 : Heap) (n0 : Nat) (v : Option Value) (h : Heap) (L : List Loc) : Prop := v = none ∧ Fr n0 L ∧ Keep h0 h []
set_option maxRecDepth 65536 in
set_option maxHeartbeats 40000000 in
theorem rmnum (l : Launch) (Z : State) (a0 : Array Value) (hw : ∀ d ∈ tables_1, d.before a0 Z = true) (ws : List Jvm.Cond) (a1 : Addr) (h0 : Heap) (n0 : Nat) (Z0 : n0 ≤ h0.size) :
    MetFree l (⟨"java/lang/Number", "<init>", "()V"⟩ : MethodName) (head1 (Jvm.Cond.code (⟨"java/lang/Number", "<init>", "()V"⟩ : MethodName) jdk_18_method_1_code 1 none :: ws) ({ frames := 1, cells := 0, slots := 0, locals := 12 } : Room)) (fun a U => a = #[(.ref a1)] ∧ Z.Warmed39 U.vm ∧ U.heap = h0) (fun _ _ _ _ _ => True) (fun _ U o U' => ∃ v L, o = .returned v ∧ Qnum Z a1 h0 n0 v U'.heap L ∧ FrameEnd U o U' L ({ frames := 1, cells := 0, slots := 0, locals := 12 } : Room).cells ({ frames := 1, cells := 0, slots := 0, locals := 12 } : Room).slots) := by
  refine MetFree.of_bodySF (plainFor_of_name pn_java_lang_Number) hisR ?_
  intro p e s m args below meth c s₁ Bd hml0 hP hK
  obtain ⟨rfl, hZ, hH0⟩ := hP
  have hx := Bd.exec
  have hby := Bd.bytes
  have hml : c.maxLocals = 1 := hml0
  have hown : s.vm.findClass "java/lang/Number" = some m.cls := findClass_of_methodNamed Bd.named
  have hnm := (name_of_methodNamed Bd.named Bd.method).1
  have X0 : Stand p l e ({ frames := 1, cells := 0, slots := 0, locals := 12 } : Room) s m #[(.ref a1)] below meth c s₁ [] 0 0 := Stand.of_body Bd
  have e0 : s₁.heap = h0 := by rw [← hH0, Bd.state]; rfl
  have N0 := Fr.nil n0
  refine own_cast (ef_num m a1) ?_
  show own_Go p e below (fun o U' => ∃ v L, o = .returned v ∧ Qnum Z a1 h0 n0 v U'.heap L ∧ FrameEnd s o U' L ({ frames := 1, cells := 0, slots := 0, locals := 12 } : Room).cells ({ frames := 1, cells := 0, slots := 0, locals := 12 } : Room).slots) (s₁.setTop (mkF m 0 #[.val (.ref a1)] []))
  refine own_via (fun _ => XS.aloadN X0.here hx rfl (hb hby d8_0) rfl rfl) ?_
  show own_Go p e below _ (s₁.setTop (mkF m 1 #[.val (.ref a1)] [(.ref a1)]))
  obtain ⟨T_1, X_1, e_1, st_1⟩ := initO X0 hx hZ hown (own_w hw 47 rfl) (own_w hw 7 rfl) (own_w hw 8 rfl) e0 (g := (mkF m 1 #[.val (.ref a1)] [(.ref a1)])) rfl (by rw [hml]; rfl) rfl (hb hby d8_1) (by decide) (W := 0) (by show 2 * 0 + _ ≤ _; exact Nat.le_of_eq rfl) (by decide)
  refine own_via st_1 ?_
  show own_Go p e below _ (T_1.setTop (mkF m 4 #[.val (.ref a1)] []))
  exact own_ret0 X_1 Bd.notSynchronized hx Bd.returns (hb hby d8_4) (by decide) (by decide) (by rw [e_1]; exact ⟨rfl, N0, (Keep.refl h0 [])⟩)
theorem d12_0 : decode jdk_22_method_1_code 0 = .ok (.aload_n 0, 1) := by decide +kernel
theorem d12_1 : decode jdk_22_method_1_code 1 = .ok (.invokespecial 1, 3) := by decide +kernel
theorem d12_4 : decode jdk_22_method_1_code 4 = .ok (.return_, 1) := by decide +kernel
theorem pn_java_util_AbstractCollection : plainName "java/util/AbstractCollection" = true := by first | (simp [plainName, overriddenIn]; done) | decide +kernel
theorem ef_abc (m : MethodId) (a1 : Addr) : entryFrame m #[(.ref a1)] 1 = mkF m 0 #[.val (.ref a1)] [] := by first | (simp [entryFrame, mkF, argsToLocals, Value.category]; done) | rfl
def Qabc (Z : State) (a1 : Addr) (h0 : Heap) (n0 : Nat) (v : Option Value) (h : Heap) (L : List Loc) : Prop := v = none ∧ Fr n0 L ∧ Keep h0 h []
set_option maxRecDepth 65536 in
set_option maxHeartbeats 40000000 in
theorem rmabc (l : Launch) (Z : State) (a0 : Array Value) (hw : ∀ d ∈ tables_1, d.before a0 Z = true) (ws : List Jvm.Cond) (a1 : Addr) (h0 : Heap) (n0 : Nat) (Z0 : n0 ≤ h0.size) :
    MetFree l (⟨"java/util/AbstractCollection", "<init>", "()V"⟩ : MethodName) (head1 (Jvm.Cond.code (⟨"java/util/AbstractCollection", "<init>", "()V"⟩ : MethodName) jdk_22_method_1_code 1 none :: ws) ({ frames := 1, cells := 0, slots := 0, locals := 12 } : Room)) (fun a U => a = #[(.ref a1)] ∧ Z.Warmed39 U.vm ∧ U.heap = h0) (fun _ _ _ _ _ => True) (fun _ U o U' => ∃ v L, o = .returned v ∧ Qabc Z a1 h0 n0 v U'.heap L ∧ FrameEnd U o U' L ({ frames := 1, cells := 0, slots := 0, locals := 12 } : Room).cells ({ frames := 1, cells := 0, slots := 0, locals := 12 } : Room).slots) := by
  refine MetFree.of_bodySF (plainFor_of_name pn_java_util_AbstractCollection) hisR ?_
  intro p e s m args below meth c s₁ Bd hml0 hP hK
  obtain ⟨rfl, hZ, hH0⟩ := hP
  have hx := Bd.exec
  have hby := Bd.bytes
  have hml : c.maxLocals = 1 := hml0
  have hown : s.vm.findClass "java/util/AbstractCollection" = some m.cls := findClass_of_methodNamed Bd.named
  have hnm := (name_of_methodNamed Bd.named Bd.method).1
  have X0 : Stand p l e ({ frames := 1, cells := 0, slots := 0, locals := 12 } : Room) s m #[(.ref a1)] below meth c s₁ [] 0 0 := Stand.of_body Bd
  have e0 : s₁.heap = h0 := by rw [← hH0, Bd.state]; rfl
  have N0 := Fr.nil n0
  refine own_cast (ef_abc m a1) ?_
  show own_Go p e below (fun o U' => ∃ v L, o = .returned v ∧ Qabc Z a1 h0 n0 v U'.heap L ∧ FrameEnd s o U' L ({ frames := 1, cells := 0, slots := 0, locals := 12 } : Room).cells ({ frames := 1, cells := 0, slots := 0, locals := 12 } : Room).slots) (s₁.setTop (mkF m 0 #[.val (.ref a1)] []))
  refine own_via (fun _ => XS.aloadN X0.here hx rfl (hb hby d12_0) rfl rfl) ?_
  show own_Go p e below _ (s₁.setTop (mkF m 1 #[.val (.ref a1)] [(.ref a1)]))
  obtain ⟨T_1, X_1, e_1, st_1⟩ := initO X0 hx hZ hown (own_w hw 73 rfl) (own_w hw 7 rfl) (own_w hw 8 rfl) e0 (g := (mkF m 1 #[.val (.ref a1)] [(.ref a1)])) rfl (by rw [hml]; rfl) rfl (hb hby d12_1) (by decide) (W := 0) (by show 2 * 0 + _ ≤ _; exact Nat.le_of_eq rfl) (by decide)
  refine own_via st_1 ?_
  show own_Go p e below _ (T_1.setTop (mkF m 4 #[.val (.ref a1)] []))
  exact own_ret0 X_1 Bd.notSynchronized hx Bd.returns (hb hby d12_4) (by decide) (by decide) (by rw [e_1]; exact ⟨rfl, N0, (Keep.refl h0 [])⟩)
theorem d1_0 : decode prog_12_method_1_code 0 = .ok (.aload_n 0, 1) := by decide +kernel
theorem d1_1 : decode prog_12_method_1_code 1 = .ok (.invokespecial 1, 3) := by decide +kernel
theorem d1_4 : decode prog_12_method_1_code 4 = .ok (.return_, 1) := by decide +kernel
theorem pn_com_example_optimistik_optimistik_engine_CommitChecks : plainName "com/example/optimistik/optimistik/engine/CommitChecks" = true := by first | (simp [plainName, overriddenIn]; done) | decide +kernel
theorem ef_ccInit (m : MethodId) (a1 : Addr) : entryFrame m #[(.ref a1)] 1 = mkF m 0 #[.val (.ref a1)] [] := by first | (simp [entryFrame, mkF, argsToLocals, Value.category]; done) | rfl
def QccInit (Z : State) (a1 : Addr) (h0 : Heap) (n0 : Nat) (v : Option Value) (h : Heap) (L : List Loc) : Prop := v = none ∧ Fr n0 L ∧ Keep h0 h []
set_option maxRecDepth 65536 in
set_option maxHeartbeats 40000000 in
theorem rmccInit (l : Launch) (Z : State) (a0 : Array Value) (hw : ∀ d ∈ tables_1, d.before a0 Z = true) (ws : List Jvm.Cond) (a1 : Addr) (h0 : Heap) (n0 : Nat) (Z0 : n0 ≤ h0.size) :
    MetFree l (⟨"com/example/optimistik/optimistik/engine/CommitChecks", "<init>", "()V"⟩ : MethodName) (head1 (Jvm.Cond.code (⟨"com/example/optimistik/optimistik/engine/CommitChecks", "<init>", "()V"⟩ : MethodName) prog_12_method_1_code 1 none :: ws) ({ frames := 1, cells := 0, slots := 0, locals := 12 } : Room)) (fun a U => a = #[(.ref a1)] ∧ Z.Warmed39 U.vm ∧ U.heap = h0) (fun _ _ _ _ _ => True) (fun _ U o U' => ∃ v L, o = .returned v ∧ QccInit Z a1 h0 n0 v U'.heap L ∧ FrameEnd U o U' L ({ frames := 1, cells := 0, slots := 0, locals := 12 } : Room).cells ({ frames := 1, cells := 0, slots := 0, locals := 12 } : Room).slots) := by
  refine MetFree.of_bodySF (plainFor_of_name pn_com_example_optimistik_optimistik_engine_CommitChecks) hisR ?_
  intro p e s m args below meth c s₁ Bd hml0 hP hK
  obtain ⟨rfl, hZ, hH0⟩ := hP
  have hx := Bd.exec
  have hby := Bd.bytes
  have hml : c.maxLocals = 1 := hml0
  have hown : s.vm.findClass "com/example/optimistik/optimistik/engine/CommitChecks" = some m.cls := findClass_of_methodNamed Bd.named
  have hnm := (name_of_methodNamed Bd.named Bd.method).1
  have X0 : Stand p l e ({ frames := 1, cells := 0, slots := 0, locals := 12 } : Room) s m #[(.ref a1)] below meth c s₁ [] 0 0 := Stand.of_body Bd
  have e0 : s₁.heap = h0 := by rw [← hH0, Bd.state]; rfl
  have N0 := Fr.nil n0
  refine own_cast (ef_ccInit m a1) ?_
  show own_Go p e below (fun o U' => ∃ v L, o = .returned v ∧ QccInit Z a1 h0 n0 v U'.heap L ∧ FrameEnd s o U' L ({ frames := 1, cells := 0, slots := 0, locals := 12 } : Room).cells ({ frames := 1, cells := 0, slots := 0, locals := 12 } : Room).slots) (s₁.setTop (mkF m 0 #[.val (.ref a1)] []))
  refine own_via (fun _ => XS.aloadN X0.here hx rfl (hb hby d1_0) rfl rfl) ?_
  show own_Go p e below _ (s₁.setTop (mkF m 1 #[.val (.ref a1)] [(.ref a1)]))
  obtain ⟨T_1, X_1, e_1, st_1⟩ := initO X0 hx hZ hown (own_w hw 6 rfl) (own_w hw 7 rfl) (own_w hw 8 rfl) e0 (g := (mkF m 1 #[.val (.ref a1)] [(.ref a1)])) rfl (by rw [hml]; rfl) rfl (hb hby d1_1) (by decide) (W := 0) (by show 2 * 0 + _ ≤ _; exact Nat.le_of_eq rfl) (by decide)
  refine own_via st_1 ?_
  show own_Go p e below _ (T_1.setTop (mkF m 4 #[.val (.ref a1)] []))
  exact own_ret0 X_1 Bd.notSynchronized hx Bd.returns (hb hby d1_4) (by decide) (by decide) (by rw [e_1]; exact ⟨rfl, N0, (Keep.refl h0 [])⟩)
theorem d3_0 : decode prog_12_method_6_code 0 = .ok (.aload_n 0, 1) := by decide +kernel
theorem d3_1 : decode prog_12_method_6_code 1 = .ok (.getfield 13, 3) := by decide +kernel
theorem d3_4 : decode prog_12_method_6_code 4 = .ok (.ifnonnull 21, 3) := by decide +kernel
theorem d3_7 : decode prog_12_method_6_code 7 = .ok (.aload_n 0, 1) := by decide +kernel
theorem d3_8 : decode prog_12_method_6_code 8 = .ok (.getfield 52, 3) := by decide +kernel
theorem d3_11 : decode prog_12_method_6_code 11 = .ok (.ifnonnull 14, 3) := by decide +kernel
theorem d3_14 : decode prog_12_method_6_code 14 = .ok (.aload_n 0, 1) := by decide +kernel
theorem d3_15 : decode prog_12_method_6_code 15 = .ok (.getfield 67, 3) := by decide +kernel
theorem d3_18 : decode prog_12_method_6_code 18 = .ok (.ifnonnull 7, 3) := by decide +kernel
theorem d3_21 : decode prog_12_method_6_code 21 = .ok (.iconst 1, 1) := by decide +kernel
theorem d3_22 : decode prog_12_method_6_code 22 = .ok (.goto 4, 3) := by decide +kernel
theorem d3_25 : decode prog_12_method_6_code 25 = .ok (.iconst 0, 1) := by decide +kernel
theorem d3_26 : decode prog_12_method_6_code 26 = .ok (.ireturn, 1) := by decide +kernel
theorem ef_isEmpty (m : MethodId) (a1 : Addr) : entryFrame m #[(.ref a1)] 1 = mkF m 0 #[.val (.ref a1)] [] := by first | (simp [entryFrame, mkF, argsToLocals, Value.category]; done) | rfl
def QisEmpty (Z : State) (a1 : Addr) (rv : Value) (sv : Value) (iv : Value) (h0 : Heap) (n0 : Nat) (v : Option Value) (h : Heap) (L : List Loc) : Prop := ∃ z : Int32, v = some (.int z) ∧ Fr n0 L ∧ h = h0 ∧ (z = if rv = .null ∧ sv = .null ∧ iv = .null then 1 else 0)
set_option maxRecDepth 65536 in
set_option maxHeartbeats 40000000 in
theorem rmisEmpty (l : Launch) (Z : State) (a0 : Array Value) (hw : ∀ d ∈ tables_1, d.before a0 Z = true) (ws : List Jvm.Cond) (a1 : Addr) (rv : Value) (sv : Value) (iv : Value) (h0 : Heap) (n0 : Nat) (Z0 : n0 ≤ h0.size) (Frd : Fld Z h0 a1 "com/example/optimistik/optimistik/engine/CommitChecks" "reads" "Lcom/example/optimistik/optimistik/engine/IdentitySet;" rv) (Fsc : Fld Z h0 a1 "com/example/optimistik/optimistik/engine/CommitChecks" "scans" "Ljava/util/List;" sv) (Fin : Fld Z h0 a1 "com/example/optimistik/optimistik/engine/CommitChecks" "inserted" "Ljava/util/List;" iv) (hr : rv.isRef = true) (hs : sv.isRef = true) (hi : iv.isRef = true) :
    MetFree l (⟨"com/example/optimistik/optimistik/engine/CommitChecks", "isEmpty", "()Z"⟩ : MethodName) (head1 (Jvm.Cond.code (⟨"com/example/optimistik/optimistik/engine/CommitChecks", "isEmpty", "()Z"⟩ : MethodName) prog_12_method_6_code 1 (some .boolean) :: ws) ({ frames := 0, cells := 0, slots := 0, locals := 0 } : Room)) (fun a U => a = #[(.ref a1)] ∧ Z.Warmed39 U.vm ∧ U.heap = h0) (fun _ _ _ _ _ => True) (fun _ U o U' => ∃ v L, o = .returned v ∧ QisEmpty Z a1 rv sv iv h0 n0 v U'.heap L ∧ FrameEnd U o U' L ({ frames := 0, cells := 0, slots := 0, locals := 0 } : Room).cells ({ frames := 0, cells := 0, slots := 0, locals := 0 } : Room).slots) := by
  refine MetFree.of_bodySF (plainFor_of_name pn_com_example_optimistik_optimistik_engine_CommitChecks) hisR ?_
  intro p e s m args below meth c s₁ Bd hml0 hP hK
  obtain ⟨rfl, hZ, hH0⟩ := hP
  have hx := Bd.exec
  have hby := Bd.bytes
  have hml : c.maxLocals = 1 := hml0
  have hown : s.vm.findClass "com/example/optimistik/optimistik/engine/CommitChecks" = some m.cls := findClass_of_methodNamed Bd.named
  have hnm := (name_of_methodNamed Bd.named Bd.method).1
  have X0 : Stand p l e ({ frames := 0, cells := 0, slots := 0, locals := 0 } : Room) s m #[(.ref a1)] below meth c s₁ [] 0 0 := Stand.of_body Bd
  have e0 : s₁.heap = h0 := by rw [← hH0, Bd.state]; rfl
  have N0 := Fr.nil n0
  refine own_cast (ef_isEmpty m a1) ?_
  show own_Go p e below (fun o U' => ∃ v L, o = .returned v ∧ QisEmpty Z a1 rv sv iv h0 n0 v U'.heap L ∧ FrameEnd s o U' L ({ frames := 0, cells := 0, slots := 0, locals := 0 } : Room).cells ({ frames := 0, cells := 0, slots := 0, locals := 0 } : Room).slots) (s₁.setTop (mkF m 0 #[.val (.ref a1)] []))
  refine own_via (fun _ => XS.aloadN X0.here hx rfl (hb hby d3_0) rfl rfl) ?_
  show own_Go p e below _ (s₁.setTop (mkF m 1 #[.val (.ref a1)] [(.ref a1)]))
  obtain ⟨T_1, X_1, e_1, st_1⟩ := getF X0 hx hZ hown (host := "") (Or.inl (own_w hw 14 rfl)) Via.refl e0 Frd (g := (mkF m 1 #[.val (.ref a1)] [(.ref a1)])) rfl rfl (hb hby d3_1)
  refine own_via st_1 ?_
  show own_Go p e below _ (T_1.setTop (mkF m 4 #[.val (.ref a1)] [rv]))
  rcases ref_cases hr with rfl | ⟨y_2, rfl⟩
  · refine own_via (fun _ => XS.ifnonnullNo X_1.here hx rfl (hb hby d3_4) rfl) ?_
    show own_Go p e below _ (T_1.setTop (mkF m 7 #[.val (.ref a1)] []))
    refine own_via (fun _ => XS.aloadN X_1.here hx rfl (hb hby d3_7) rfl rfl) ?_
    show own_Go p e below _ (T_1.setTop (mkF m 8 #[.val (.ref a1)] [(.ref a1)]))
    obtain ⟨T_3, X_3, e_3, st_3⟩ := getF X_1 hx hZ hown (host := "") (Or.inl (own_w hw 16 rfl)) Via.refl e_1 Fsc (g := (mkF m 8 #[.val (.ref a1)] [(.ref a1)])) rfl rfl (hb hby d3_8)
    refine own_via st_3 ?_
    show own_Go p e below _ (T_3.setTop (mkF m 11 #[.val (.ref a1)] [sv]))
    rcases ref_cases hs with rfl | ⟨y_4, rfl⟩
    · refine own_via (fun _ => XS.ifnonnullNo X_3.here hx rfl (hb hby d3_11) rfl) ?_
      show own_Go p e below _ (T_3.setTop (mkF m 14 #[.val (.ref a1)] []))
      refine own_via (fun _ => XS.aloadN X_3.here hx rfl (hb hby d3_14) rfl rfl) ?_
      show own_Go p e below _ (T_3.setTop (mkF m 15 #[.val (.ref a1)] [(.ref a1)]))
      obtain ⟨T_5, X_5, e_5, st_5⟩ := getF X_3 hx hZ hown (host := "") (Or.inl (own_w hw 18 rfl)) Via.refl e_3 Fin (g := (mkF m 15 #[.val (.ref a1)] [(.ref a1)])) rfl rfl (hb hby d3_15)
      refine own_via st_5 ?_
      show own_Go p e below _ (T_5.setTop (mkF m 18 #[.val (.ref a1)] [iv]))
      rcases ref_cases hi with rfl | ⟨y_6, rfl⟩
      · refine own_via (fun _ => XS.ifnonnullNo X_5.here hx rfl (hb hby d3_18) rfl) ?_
        show own_Go p e below _ (T_5.setTop (mkF m 21 #[.val (.ref a1)] []))
        refine own_via (fun _ => XS.iconst X_5.here hx rfl (hb hby d3_21)) ?_
        show own_Go p e below _ (T_5.setTop (mkF m 22 #[.val (.ref a1)] [(.int (1 : Int32))]))
        refine own_via (fun _ => XS.goto X_5.here hx rfl (pc0 := 22) (pc' := 26) rfl (hb hby d3_22) (by decide) (by decide)) ?_
        show own_Go p e below _ (T_5.setTop (mkF m 26 #[.val (.ref a1)] [(.int (1 : Int32))]))
        exact own_retv X_5 Bd.notSynchronized hx Bd.returns rfl (Or.inl ⟨rfl, (by simp), _, rfl⟩) (hb hby d3_26) (by decide) (by decide) (by rw [e_5]; exact ⟨(1 : Int32), rfl, N0, rfl, (by simp)⟩)
      · refine own_via (fun _ => XS.ifnonnullYes X_5.here hx rfl (pc0 := 18) (pc' := 25) rfl (hb hby d3_18) rfl (by decide) (by decide)) ?_
        show own_Go p e below _ (T_5.setTop (mkF m 25 #[.val (.ref a1)] []))
        refine own_via (fun _ => XS.iconst X_5.here hx rfl (hb hby d3_25)) ?_
        show own_Go p e below _ (T_5.setTop (mkF m 26 #[.val (.ref a1)] [(.int (0 : Int32))]))
        exact own_retv X_5 Bd.notSynchronized hx Bd.returns rfl (Or.inl ⟨rfl, (by simp), _, rfl⟩) (hb hby d3_26) (by decide) (by decide) (by rw [e_5]; exact ⟨(0 : Int32), rfl, N0, rfl, (by simp)⟩)
    · refine own_via (fun _ => XS.ifnonnullYes X_3.here hx rfl (pc0 := 11) (pc' := 25) rfl (hb hby d3_11) rfl (by decide) (by decide)) ?_
      show own_Go p e below _ (T_3.setTop (mkF m 25 #[.val (.ref a1)] []))
      refine own_via (fun _ => XS.iconst X_3.here hx rfl (hb hby d3_25)) ?_
      show own_Go p e below _ (T_3.setTop (mkF m 26 #[.val (.ref a1)] [(.int (0 : Int32))]))
      exact own_retv X_3 Bd.notSynchronized hx Bd.returns rfl (Or.inl ⟨rfl, (by simp), _, rfl⟩) (hb hby d3_26) (by decide) (by decide) (by rw [e_3]; exact ⟨(0 : Int32), rfl, N0, rfl, (by simp)⟩)
  · refine own_via (fun _ => XS.ifnonnullYes X_1.here hx rfl (pc0 := 4) (pc' := 25) rfl (hb hby d3_4) rfl (by decide) (by decide)) ?_
    show own_Go p e below _ (T_1.setTop (mkF m 25 #[.val (.ref a1)] []))
    refine own_via (fun _ => XS.iconst X_1.here hx rfl (hb hby d3_25)) ?_
    show own_Go p e below _ (T_1.setTop (mkF m 26 #[.val (.ref a1)] [(.int (0 : Int32))]))
    exact own_retv X_1 Bd.notSynchronized hx Bd.returns rfl (Or.inl ⟨rfl, (by simp), _, rfl⟩) (hb hby d3_26) (by decide) (by decide) (by rw [e_1]; exact ⟨(0 : Int32), rfl, N0, rfl, (by simp)⟩)
theorem d5_0 : decode method_3_code 0 = .ok (.iload_n 0, 1) := by decide +kernel
theorem d5_1 : decode method_3_code 1 = .ok (.ifCond .ne 7, 3) := by decide +kernel
theorem d5_4 : decode method_3_code 4 = .ok (.getstatic 20, 3) := by decide +kernel
theorem d5_7 : decode method_3_code 7 = .ok (.areturn, 1) := by decide +kernel
theorem d5_8 : decode method_3_code 8 = .ok (.iload_n 0, 1) := by decide +kernel
theorem d5_9 : decode method_3_code 9 = .ok (.iconst 1, 1) := by decide +kernel
theorem d5_10 : decode method_3_code 10 = .ok (.if_icmp .ne 7, 3) := by decide +kernel
theorem d5_13 : decode method_3_code 13 = .ok (.getstatic 26, 3) := by decide +kernel
theorem d5_16 : decode method_3_code 16 = .ok (.areturn, 1) := by decide +kernel
theorem d5_17 : decode method_3_code 17 = .ok (.iload_n 0, 1) := by decide +kernel
theorem d5_18 : decode method_3_code 18 = .ok (.iconst 2, 1) := by decide +kernel
theorem d5_19 : decode method_3_code 19 = .ok (.if_icmp .ne 7, 3) := by decide +kernel
theorem d5_22 : decode method_3_code 22 = .ok (.getstatic 29, 3) := by decide +kernel
theorem d5_25 : decode method_3_code 25 = .ok (.areturn, 1) := by decide +kernel
theorem d5_26 : decode method_3_code 26 = .ok (.iload_n 0, 1) := by decide +kernel
theorem d5_27 : decode method_3_code 27 = .ok (.iconst 3, 1) := by decide +kernel
theorem d5_28 : decode method_3_code 28 = .ok (.if_icmp .ne 7, 3) := by decide +kernel
theorem d5_31 : decode method_3_code 31 = .ok (.getstatic 32, 3) := by decide +kernel
theorem d5_34 : decode method_3_code 34 = .ok (.areturn, 1) := by decide +kernel
theorem d5_35 : decode method_3_code 35 = .ok (.getstatic 35, 3) := by decide +kernel
theorem d5_38 : decode method_3_code 38 = .ok (.areturn, 1) := by decide +kernel
theorem pn_com_example_optimistik_optimistik_engine_CommitChecksIsEmptyPinLaw : plainName "com/example/optimistik/optimistik/engine/CommitChecksIsEmptyPinLaw" = true := by first | (simp [plainName, overriddenIn]; done) | decide +kernel
theorem ef_level (m : MethodId) (p1 : Int32) : entryFrame m #[(.int p1)] 1 = mkF m 0 #[.val (.int p1)] [] := by first | (simp [entryFrame, mkF, argsToLocals, Value.category]; done) | rfl
def Qlevel (Z : State) (p1 : Int32) (u0 : Addr) (u1 : Addr) (u2 : Addr) (u3 : Addr) (u4 : Addr) (h0 : Heap) (n0 : Nat) (v : Option Value) (h : Heap) (L : List Loc) : Prop := ∃ r : Addr, v = some (.ref r) ∧ Fr n0 L ∧ h = h0 ∧ ((p1 = 3 ∧ r = u3) ∨ (p1 = 4 ∧ r = u4) ∨ (¬ p1 = 3 ∧ ¬ p1 = 4 ∧ r ≠ u3 ∧ r ≠ u4))
set_option maxRecDepth 65536 in
set_option maxHeartbeats 40000000 in
theorem rmlevel (l : Launch) (Z : State) (a0 : Array Value) (hw : ∀ d ∈ tables_1, d.before a0 Z = true) (ws : List Jvm.Cond) (p1 : Int32) (u0 : Addr) (u1 : Addr) (u2 : Addr) (u3 : Addr) (u4 : Addr) (h0 : Heap) (n0 : Nat) (Z0 : n0 ≤ h0.size) (O0 : Old Z n0 h0) (Su0 : Sta Z Z.heap "com/example/optimistik/optimistik/model/IsolationLevel" "READ_UNCOMMITTED" "Lcom/example/optimistik/optimistik/model/IsolationLevel;" (.ref u0)) (Su1 : Sta Z Z.heap "com/example/optimistik/optimistik/model/IsolationLevel" "READ_COMMITTED" "Lcom/example/optimistik/optimistik/model/IsolationLevel;" (.ref u1)) (Su2 : Sta Z Z.heap "com/example/optimistik/optimistik/model/IsolationLevel" "SNAPSHOT" "Lcom/example/optimistik/optimistik/model/IsolationLevel;" (.ref u2)) (Su3 : Sta Z Z.heap "com/example/optimistik/optimistik/model/IsolationLevel" "REPEATABLE_READ" "Lcom/example/optimistik/optimistik/model/IsolationLevel;" (.ref u3)) (Su4 : Sta Z Z.heap "com/example/optimistik/optimistik/model/IsolationLevel" "SERIALIZABLE" "Lcom/example/optimistik/optimistik/model/IsolationLevel;" (.ref u4)) (n03 : u0 ≠ u3) (n13 : u1 ≠ u3) (n23 : u2 ≠ u3) (n04 : u0 ≠ u4) (n14 : u1 ≠ u4) (n24 : u2 ≠ u4) (n34 : u3 ≠ u4) (hp : p1 = 0 ∨ p1 = 1 ∨ p1 = 2 ∨ p1 = 3 ∨ p1 = 4) :
    MetFree l (⟨"com/example/optimistik/optimistik/engine/CommitChecksIsEmptyPinLaw", "level", "(I)Lcom/example/optimistik/optimistik/model/IsolationLevel;"⟩ : MethodName) (head1 (Jvm.Cond.code (⟨"com/example/optimistik/optimistik/engine/CommitChecksIsEmptyPinLaw", "level", "(I)Lcom/example/optimistik/optimistik/model/IsolationLevel;"⟩ : MethodName) method_3_code 1 (some (.object "com/example/optimistik/optimistik/model/IsolationLevel")) :: ws) ({ frames := 0, cells := 0, slots := 0, locals := 0 } : Room)) (fun a U => a = #[(.int p1)] ∧ Z.Warmed39 U.vm ∧ U.heap = h0) (fun _ _ _ _ _ => True) (fun _ U o U' => ∃ v L, o = .returned v ∧ Qlevel Z p1 u0 u1 u2 u3 u4 h0 n0 v U'.heap L ∧ FrameEnd U o U' L ({ frames := 0, cells := 0, slots := 0, locals := 0 } : Room).cells ({ frames := 0, cells := 0, slots := 0, locals := 0 } : Room).slots) := by
  refine MetFree.of_bodySF (plainFor_of_name pn_com_example_optimistik_optimistik_engine_CommitChecksIsEmptyPinLaw) hisR ?_
  intro p e s m args below meth c s₁ Bd hml0 hP hK
  obtain ⟨rfl, hZ, hH0⟩ := hP
  have hx := Bd.exec
  have hby := Bd.bytes
  have hml : c.maxLocals = 1 := hml0
  have hown : s.vm.findClass "com/example/optimistik/optimistik/engine/CommitChecksIsEmptyPinLaw" = some m.cls := findClass_of_methodNamed Bd.named
  have hnm := (name_of_methodNamed Bd.named Bd.method).1
  have X0 : Stand p l e ({ frames := 0, cells := 0, slots := 0, locals := 0 } : Room) s m #[(.int p1)] below meth c s₁ [] 0 0 := Stand.of_body Bd
  have e0 : s₁.heap = h0 := by rw [← hH0, Bd.state]; rfl
  have N0 := Fr.nil n0
  refine own_cast (ef_level m p1) ?_
  show own_Go p e below (fun o U' => ∃ v L, o = .returned v ∧ Qlevel Z p1 u0 u1 u2 u3 u4 h0 n0 v U'.heap L ∧ FrameEnd s o U' L ({ frames := 0, cells := 0, slots := 0, locals := 0 } : Room).cells ({ frames := 0, cells := 0, slots := 0, locals := 0 } : Room).slots) (s₁.setTop (mkF m 0 #[.val (.int p1)] []))
  rcases hp with rfl | rfl | rfl | rfl | rfl
  · show own_Go p e below _ (s₁.setTop (mkF m 0 #[.val (.int (0 : Int32))] []))
    refine own_via (fun _ => XS.iloadN X0.here hx rfl (hb hby d5_0) rfl) ?_
    show own_Go p e below _ (s₁.setTop (mkF m 1 #[.val (.int (0 : Int32))] [(.int (0 : Int32))]))
    refine own_via (fun _ => XS.ifNo X0.here hx rfl (hb hby d5_1) rfl ((if0 _ _).trans (teq ((by decide) : (0 : Int32) = (0 : Int32))).2)) ?_
    show own_Go p e below _ (s₁.setTop (mkF m 4 #[.val (.int (0 : Int32))] []))
    obtain ⟨T_1, X_1, e_1, st_1⟩ := getS2 X0 hx hZ hown (host := "") (Or.inl (own_w hw 27 rfl)) Via.refl e0 (Su0.ext O0.2) (g := (mkF m 4 #[.val (.int (0 : Int32))] [])) rfl (hb hby d5_4)
    refine own_via st_1 ?_
    show own_Go p e below _ (T_1.setTop (mkF m 7 #[.val (.int (0 : Int32))] [(.ref u0)]))
    exact own_retv X_1 Bd.notSynchronized hx Bd.returns rfl (Or.inr (Or.inr (Or.inr (Or.inr ⟨rfl, rfl, rfl⟩)))) (hb hby d5_7) (by decide) (by decide) (by rw [e_1]; exact ⟨u0, rfl, N0, rfl, (Or.inr (Or.inr ⟨by decide, by decide, n03, n04⟩))⟩)
  · show own_Go p e below _ (s₁.setTop (mkF m 0 #[.val (.int (1 : Int32))] []))
    refine own_via (fun _ => XS.iloadN X0.here hx rfl (hb hby d5_0) rfl) ?_
    show own_Go p e below _ (s₁.setTop (mkF m 1 #[.val (.int (1 : Int32))] [(.int (1 : Int32))]))
    refine own_via (fun _ => XS.ifYes X0.here hx rfl (pc0 := 1) (pc' := 8) rfl (hb hby d5_1) rfl ((if0 _ _).trans (feq ((by decide) : ¬ ((1 : Int32) = (0 : Int32)))).2) (by decide) (by decide)) ?_
    show own_Go p e below _ (s₁.setTop (mkF m 8 #[.val (.int (1 : Int32))] []))
    refine own_via (fun _ => XS.iloadN X0.here hx rfl (hb hby d5_8) rfl) ?_
    show own_Go p e below _ (s₁.setTop (mkF m 9 #[.val (.int (1 : Int32))] [(.int (1 : Int32))]))
    refine own_via (fun _ => XS.iconst X0.here hx rfl (hb hby d5_9)) ?_
    show own_Go p e below _ (s₁.setTop (mkF m 10 #[.val (.int (1 : Int32))] [(.int (1 : Int32)), (.int (1 : Int32))]))
    refine own_via (fun _ => XS.icmpNo X0.here hx rfl (hb hby d5_10) rfl (teq ((by decide) : (1 : Int32) = (1 : Int32))).2) ?_
    show own_Go p e below _ (s₁.setTop (mkF m 13 #[.val (.int (1 : Int32))] []))
    obtain ⟨T_2, X_2, e_2, st_2⟩ := getS2 X0 hx hZ hown (host := "") (Or.inl (own_w hw 140 rfl)) Via.refl e0 (Su1.ext O0.2) (g := (mkF m 13 #[.val (.int (1 : Int32))] [])) rfl (hb hby d5_13)
    refine own_via st_2 ?_
    show own_Go p e below _ (T_2.setTop (mkF m 16 #[.val (.int (1 : Int32))] [(.ref u1)]))
    exact own_retv X_2 Bd.notSynchronized hx Bd.returns rfl (Or.inr (Or.inr (Or.inr (Or.inr ⟨rfl, rfl, rfl⟩)))) (hb hby d5_16) (by decide) (by decide) (by rw [e_2]; exact ⟨u1, rfl, N0, rfl, (Or.inr (Or.inr ⟨by decide, by decide, n13, n14⟩))⟩)
  · show own_Go p e below _ (s₁.setTop (mkF m 0 #[.val (.int (2 : Int32))] []))
    refine own_via (fun _ => XS.iloadN X0.here hx rfl (hb hby d5_0) rfl) ?_
    show own_Go p e below _ (s₁.setTop (mkF m 1 #[.val (.int (2 : Int32))] [(.int (2 : Int32))]))
    refine own_via (fun _ => XS.ifYes X0.here hx rfl (pc0 := 1) (pc' := 8) rfl (hb hby d5_1) rfl ((if0 _ _).trans (feq ((by decide) : ¬ ((2 : Int32) = (0 : Int32)))).2) (by decide) (by decide)) ?_
    show own_Go p e below _ (s₁.setTop (mkF m 8 #[.val (.int (2 : Int32))] []))
    refine own_via (fun _ => XS.iloadN X0.here hx rfl (hb hby d5_8) rfl) ?_
    show own_Go p e below _ (s₁.setTop (mkF m 9 #[.val (.int (2 : Int32))] [(.int (2 : Int32))]))
    refine own_via (fun _ => XS.iconst X0.here hx rfl (hb hby d5_9)) ?_
    show own_Go p e below _ (s₁.setTop (mkF m 10 #[.val (.int (2 : Int32))] [(.int (1 : Int32)), (.int (2 : Int32))]))
    refine own_via (fun _ => XS.icmpYes X0.here hx rfl (pc0 := 10) (pc' := 17) rfl (hb hby d5_10) rfl (feq ((by decide) : ¬ ((2 : Int32) = (1 : Int32)))).2 (by decide) (by decide)) ?_
    show own_Go p e below _ (s₁.setTop (mkF m 17 #[.val (.int (2 : Int32))] []))
    refine own_via (fun _ => XS.iloadN X0.here hx rfl (hb hby d5_17) rfl) ?_
    show own_Go p e below _ (s₁.setTop (mkF m 18 #[.val (.int (2 : Int32))] [(.int (2 : Int32))]))
    refine own_via (fun _ => XS.iconst X0.here hx rfl (hb hby d5_18)) ?_
    show own_Go p e below _ (s₁.setTop (mkF m 19 #[.val (.int (2 : Int32))] [(.int (2 : Int32)), (.int (2 : Int32))]))
    refine own_via (fun _ => XS.icmpNo X0.here hx rfl (hb hby d5_19) rfl (teq ((by decide) : (2 : Int32) = (2 : Int32))).2) ?_
    show own_Go p e below _ (s₁.setTop (mkF m 22 #[.val (.int (2 : Int32))] []))
    obtain ⟨T_3, X_3, e_3, st_3⟩ := getS2 X0 hx hZ hown (host := "") (Or.inl (own_w hw 142 rfl)) Via.refl e0 (Su2.ext O0.2) (g := (mkF m 22 #[.val (.int (2 : Int32))] [])) rfl (hb hby d5_22)
    refine own_via st_3 ?_
    show own_Go p e below _ (T_3.setTop (mkF m 25 #[.val (.int (2 : Int32))] [(.ref u2)]))
    exact own_retv X_3 Bd.notSynchronized hx Bd.returns rfl (Or.inr (Or.inr (Or.inr (Or.inr ⟨rfl, rfl, rfl⟩)))) (hb hby d5_25) (by decide) (by decide) (by rw [e_3]; exact ⟨u2, rfl, N0, rfl, (Or.inr (Or.inr ⟨by decide, by decide, n23, n24⟩))⟩)
  · show own_Go p e below _ (s₁.setTop (mkF m 0 #[.val (.int (3 : Int32))] []))
    refine own_via (fun _ => XS.iloadN X0.here hx rfl (hb hby d5_0) rfl) ?_
    show own_Go p e below _ (s₁.setTop (mkF m 1 #[.val (.int (3 : Int32))] [(.int (3 : Int32))]))
    refine own_via (fun _ => XS.ifYes X0.here hx rfl (pc0 := 1) (pc' := 8) rfl (hb hby d5_1) rfl ((if0 _ _).trans (feq ((by decide) : ¬ ((3 : Int32) = (0 : Int32)))).2) (by decide) (by decide)) ?_
    show own_Go p e below _ (s₁.setTop (mkF m 8 #[.val (.int (3 : Int32))] []))
    refine own_via (fun _ => XS.iloadN X0.here hx rfl (hb hby d5_8) rfl) ?_
    show own_Go p e below _ (s₁.setTop (mkF m 9 #[.val (.int (3 : Int32))] [(.int (3 : Int32))]))
    refine own_via (fun _ => XS.iconst X0.here hx rfl (hb hby d5_9)) ?_
    show own_Go p e below _ (s₁.setTop (mkF m 10 #[.val (.int (3 : Int32))] [(.int (1 : Int32)), (.int (3 : Int32))]))
    refine own_via (fun _ => XS.icmpYes X0.here hx rfl (pc0 := 10) (pc' := 17) rfl (hb hby d5_10) rfl (feq ((by decide) : ¬ ((3 : Int32) = (1 : Int32)))).2 (by decide) (by decide)) ?_
    show own_Go p e below _ (s₁.setTop (mkF m 17 #[.val (.int (3 : Int32))] []))
    refine own_via (fun _ => XS.iloadN X0.here hx rfl (hb hby d5_17) rfl) ?_
    show own_Go p e below _ (s₁.setTop (mkF m 18 #[.val (.int (3 : Int32))] [(.int (3 : Int32))]))
    refine own_via (fun _ => XS.iconst X0.here hx rfl (hb hby d5_18)) ?_
    show own_Go p e below _ (s₁.setTop (mkF m 19 #[.val (.int (3 : Int32))] [(.int (2 : Int32)), (.int (3 : Int32))]))
    refine own_via (fun _ => XS.icmpYes X0.here hx rfl (pc0 := 19) (pc' := 26) rfl (hb hby d5_19) rfl (feq ((by decide) : ¬ ((3 : Int32) = (2 : Int32)))).2 (by decide) (by decide)) ?_
    show own_Go p e below _ (s₁.setTop (mkF m 26 #[.val (.int (3 : Int32))] []))
    refine own_via (fun _ => XS.iloadN X0.here hx rfl (hb hby d5_26) rfl) ?_
    show own_Go p e below _ (s₁.setTop (mkF m 27 #[.val (.int (3 : Int32))] [(.int (3 : Int32))]))
    refine own_via (fun _ => XS.iconst X0.here hx rfl (hb hby d5_27)) ?_
    show own_Go p e below _ (s₁.setTop (mkF m 28 #[.val (.int (3 : Int32))] [(.int (3 : Int32)), (.int (3 : Int32))]))
    refine own_via (fun _ => XS.icmpNo X0.here hx rfl (hb hby d5_28) rfl (teq ((by decide) : (3 : Int32) = (3 : Int32))).2) ?_
    show own_Go p e below _ (s₁.setTop (mkF m 31 #[.val (.int (3 : Int32))] []))
    obtain ⟨T_4, X_4, e_4, st_4⟩ := getS2 X0 hx hZ hown (host := "") (Or.inl (own_w hw 144 rfl)) Via.refl e0 (Su3.ext O0.2) (g := (mkF m 31 #[.val (.int (3 : Int32))] [])) rfl (hb hby d5_31)
    refine own_via st_4 ?_
    show own_Go p e below _ (T_4.setTop (mkF m 34 #[.val (.int (3 : Int32))] [(.ref u3)]))
    exact own_retv X_4 Bd.notSynchronized hx Bd.returns rfl (Or.inr (Or.inr (Or.inr (Or.inr ⟨rfl, rfl, rfl⟩)))) (hb hby d5_34) (by decide) (by decide) (by rw [e_4]; exact ⟨u3, rfl, N0, rfl, (Or.inl ⟨rfl, rfl⟩)⟩)
  · show own_Go p e below _ (s₁.setTop (mkF m 0 #[.val (.int (4 : Int32))] []))
    refine own_via (fun _ => XS.iloadN X0.here hx rfl (hb hby d5_0) rfl) ?_
    show own_Go p e below _ (s₁.setTop (mkF m 1 #[.val (.int (4 : Int32))] [(.int (4 : Int32))]))
    refine own_via (fun _ => XS.ifYes X0.here hx rfl (pc0 := 1) (pc' := 8) rfl (hb hby d5_1) rfl ((if0 _ _).trans (feq ((by decide) : ¬ ((4 : Int32) = (0 : Int32)))).2) (by decide) (by decide)) ?_
    show own_Go p e below _ (s₁.setTop (mkF m 8 #[.val (.int (4 : Int32))] []))
    refine own_via (fun _ => XS.iloadN X0.here hx rfl (hb hby d5_8) rfl) ?_
    show own_Go p e below _ (s₁.setTop (mkF m 9 #[.val (.int (4 : Int32))] [(.int (4 : Int32))]))
    refine own_via (fun _ => XS.iconst X0.here hx rfl (hb hby d5_9)) ?_
    show own_Go p e below _ (s₁.setTop (mkF m 10 #[.val (.int (4 : Int32))] [(.int (1 : Int32)), (.int (4 : Int32))]))
    refine own_via (fun _ => XS.icmpYes X0.here hx rfl (pc0 := 10) (pc' := 17) rfl (hb hby d5_10) rfl (feq ((by decide) : ¬ ((4 : Int32) = (1 : Int32)))).2 (by decide) (by decide)) ?_
    show own_Go p e below _ (s₁.setTop (mkF m 17 #[.val (.int (4 : Int32))] []))
    refine own_via (fun _ => XS.iloadN X0.here hx rfl (hb hby d5_17) rfl) ?_
    show own_Go p e below _ (s₁.setTop (mkF m 18 #[.val (.int (4 : Int32))] [(.int (4 : Int32))]))
    refine own_via (fun _ => XS.iconst X0.here hx rfl (hb hby d5_18)) ?_
    show own_Go p e below _ (s₁.setTop (mkF m 19 #[.val (.int (4 : Int32))] [(.int (2 : Int32)), (.int (4 : Int32))]))
    refine own_via (fun _ => XS.icmpYes X0.here hx rfl (pc0 := 19) (pc' := 26) rfl (hb hby d5_19) rfl (feq ((by decide) : ¬ ((4 : Int32) = (2 : Int32)))).2 (by decide) (by decide)) ?_
    show own_Go p e below _ (s₁.setTop (mkF m 26 #[.val (.int (4 : Int32))] []))
    refine own_via (fun _ => XS.iloadN X0.here hx rfl (hb hby d5_26) rfl) ?_
    show own_Go p e below _ (s₁.setTop (mkF m 27 #[.val (.int (4 : Int32))] [(.int (4 : Int32))]))
    refine own_via (fun _ => XS.iconst X0.here hx rfl (hb hby d5_27)) ?_
    show own_Go p e below _ (s₁.setTop (mkF m 28 #[.val (.int (4 : Int32))] [(.int (3 : Int32)), (.int (4 : Int32))]))
    refine own_via (fun _ => XS.icmpYes X0.here hx rfl (pc0 := 28) (pc' := 35) rfl (hb hby d5_28) rfl (feq ((by decide) : ¬ ((4 : Int32) = (3 : Int32)))).2 (by decide) (by decide)) ?_
    show own_Go p e below _ (s₁.setTop (mkF m 35 #[.val (.int (4 : Int32))] []))
    obtain ⟨T_5, X_5, e_5, st_5⟩ := getS2 X0 hx hZ hown (host := "") (Or.inl (own_w hw 190 rfl)) Via.refl e0 (Su4.ext O0.2) (g := (mkF m 35 #[.val (.int (4 : Int32))] [])) rfl (hb hby d5_35)
    refine own_via st_5 ?_
    show own_Go p e below _ (T_5.setTop (mkF m 38 #[.val (.int (4 : Int32))] [(.ref u4)]))
    exact own_retv X_5 Bd.notSynchronized hx Bd.returns rfl (Or.inr (Or.inr (Or.inr (Or.inr ⟨rfl, rfl, rfl⟩)))) (hb hby d5_38) (by decide) (by decide) (by rw [e_5]; exact ⟨u4, rfl, N0, rfl, (Or.inr (Or.inl ⟨rfl, rfl⟩))⟩)
theorem d21_0 : decode prog_12_method_13_code 0 = .ok (.aload_n 0, 1) := by decide +kernel
theorem d21_1 : decode prog_12_method_13_code 1 = .ok (.getstatic 154, 3) := by decide +kernel
theorem d21_4 : decode prog_12_method_13_code 4 = .ok (.if_acmp .ne 7, 3) := by decide +kernel
theorem d21_7 : decode prog_12_method_13_code 7 = .ok (.iconst 1, 1) := by decide +kernel
theorem d21_8 : decode prog_12_method_13_code 8 = .ok (.goto 4, 3) := by decide +kernel
theorem d21_11 : decode prog_12_method_13_code 11 = .ok (.iconst 0, 1) := by decide +kernel
theorem d21_12 : decode prog_12_method_13_code 12 = .ok (.ireturn, 1) := by decide +kernel
theorem ef_crs (m : MethodId) (a1 : Addr) : entryFrame m #[(.ref a1)] 1 = mkF m 0 #[.val (.ref a1)] [] := by first | (simp [entryFrame, mkF, argsToLocals, Value.category]; done) | rfl
def Qcrs (Z : State) (a1 : Addr) (u0 : Addr) (u1 : Addr) (u2 : Addr) (u3 : Addr) (u4 : Addr) (h0 : Heap) (n0 : Nat) (v : Option Value) (h : Heap) (L : List Loc) : Prop := ∃ z : Int32, v = some (.int z) ∧ Fr n0 L ∧ h = h0 ∧ (z = if a1 = u4 then 1 else 0)
set_option maxRecDepth 65536 in
set_option maxHeartbeats 40000000 in
theorem rmcrs (l : Launch) (Z : State) (a0 : Array Value) (hw : ∀ d ∈ tables_1, d.before a0 Z = true) (ws : List Jvm.Cond) (a1 : Addr) (u0 : Addr) (u1 : Addr) (u2 : Addr) (u3 : Addr) (u4 : Addr) (h0 : Heap) (n0 : Nat) (Z0 : n0 ≤ h0.size) (O0 : Old Z n0 h0) (Su4 : Sta Z Z.heap "com/example/optimistik/optimistik/model/IsolationLevel" "SERIALIZABLE" "Lcom/example/optimistik/optimistik/model/IsolationLevel;" (.ref u4)) :
    MetFree l (⟨"com/example/optimistik/optimistik/engine/CommitChecks", "checksRangesScanned", "(Lcom/example/optimistik/optimistik/model/IsolationLevel;)Z"⟩ : MethodName) (head1 (Jvm.Cond.code (⟨"com/example/optimistik/optimistik/engine/CommitChecks", "checksRangesScanned", "(Lcom/example/optimistik/optimistik/model/IsolationLevel;)Z"⟩ : MethodName) prog_12_method_13_code 1 (some .boolean) :: ws) ({ frames := 0, cells := 0, slots := 0, locals := 0 } : Room)) (fun a U => a = #[(.ref a1)] ∧ Z.Warmed39 U.vm ∧ U.heap = h0) (fun _ _ _ _ _ => True) (fun _ U o U' => ∃ v L, o = .returned v ∧ Qcrs Z a1 u0 u1 u2 u3 u4 h0 n0 v U'.heap L ∧ FrameEnd U o U' L ({ frames := 0, cells := 0, slots := 0, locals := 0 } : Room).cells ({ frames := 0, cells := 0, slots := 0, locals := 0 } : Room).slots) := by
  refine MetFree.of_bodySF (plainFor_of_name pn_com_example_optimistik_optimistik_engine_CommitChecks) hisR ?_
  intro p e s m args below meth c s₁ Bd hml0 hP hK
  obtain ⟨rfl, hZ, hH0⟩ := hP
  have hx := Bd.exec
  have hby := Bd.bytes
  have hml : c.maxLocals = 1 := hml0
  have hown : s.vm.findClass "com/example/optimistik/optimistik/engine/CommitChecks" = some m.cls := findClass_of_methodNamed Bd.named
  have hnm := (name_of_methodNamed Bd.named Bd.method).1
  have X0 : Stand p l e ({ frames := 0, cells := 0, slots := 0, locals := 0 } : Room) s m #[(.ref a1)] below meth c s₁ [] 0 0 := Stand.of_body Bd
  have e0 : s₁.heap = h0 := by rw [← hH0, Bd.state]; rfl
  have N0 := Fr.nil n0
  refine own_cast (ef_crs m a1) ?_
  show own_Go p e below (fun o U' => ∃ v L, o = .returned v ∧ Qcrs Z a1 u0 u1 u2 u3 u4 h0 n0 v U'.heap L ∧ FrameEnd s o U' L ({ frames := 0, cells := 0, slots := 0, locals := 0 } : Room).cells ({ frames := 0, cells := 0, slots := 0, locals := 0 } : Room).slots) (s₁.setTop (mkF m 0 #[.val (.ref a1)] []))
  refine own_via (fun _ => XS.aloadN X0.here hx rfl (hb hby d21_0) rfl rfl) ?_
  show own_Go p e below _ (s₁.setTop (mkF m 1 #[.val (.ref a1)] [(.ref a1)]))
  obtain ⟨T_1, X_1, e_1, st_1⟩ := getS2 X0 hx hZ hown (host := "") (Or.inl (own_w hw 138 rfl)) Via.refl e0 (Su4.ext O0.2) (g := (mkF m 1 #[.val (.ref a1)] [(.ref a1)])) rfl (hb hby d21_1)
  refine own_via st_1 ?_
  show own_Go p e below _ (T_1.setTop (mkF m 4 #[.val (.ref a1)] [(.ref u4), (.ref a1)]))
  by_cases h4 : a1 = u4
  · refine own_via (fun _ => Jvm.RoadKit.acmp (g := (mkF m 4 #[.val (.ref a1)] [(.ref u4), (.ref a1)])) X_1 hx rfl rfl rfl (pc0 := 4) (pc' := 7) (same := true) rfl (hb hby d21_4) rfl (decide_eq_true (congrArg Value.ref h4)) (by decide) (by decide)) ?_
    show own_Go p e below _ (T_1.setTop (mkF m 7 #[.val (.ref a1)] []))
    refine own_via (fun _ => XS.iconst X_1.here hx rfl (hb hby d21_7)) ?_
    show own_Go p e below _ (T_1.setTop (mkF m 8 #[.val (.ref a1)] [(.int (1 : Int32))]))
    refine own_via (fun _ => XS.goto X_1.here hx rfl (pc0 := 8) (pc' := 12) rfl (hb hby d21_8) (by decide) (by decide)) ?_
    show own_Go p e below _ (T_1.setTop (mkF m 12 #[.val (.ref a1)] [(.int (1 : Int32))]))
    exact own_retv X_1 Bd.notSynchronized hx Bd.returns rfl (Or.inl ⟨rfl, (by simp), _, rfl⟩) (hb hby d21_12) (by decide) (by decide) (by rw [e_1]; exact ⟨(1 : Int32), rfl, N0, rfl, (by simp [*])⟩)
  · refine own_via (fun _ => Jvm.RoadKit.acmp (g := (mkF m 4 #[.val (.ref a1)] [(.ref u4), (.ref a1)])) X_1 hx rfl rfl rfl (pc0 := 4) (pc' := 11) (same := false) rfl (hb hby d21_4) rfl (decide_eq_false fun q => h4 (Value.ref.inj q)) (by decide) (by decide)) ?_
    show own_Go p e below _ (T_1.setTop (mkF m 11 #[.val (.ref a1)] []))
    refine own_via (fun _ => XS.iconst X_1.here hx rfl (hb hby d21_11)) ?_
    show own_Go p e below _ (T_1.setTop (mkF m 12 #[.val (.ref a1)] [(.int (0 : Int32))]))
    exact own_retv X_1 Bd.notSynchronized hx Bd.returns rfl (Or.inl ⟨rfl, (by simp), _, rfl⟩) (hb hby d21_12) (by decide) (by decide) (by rw [e_1]; exact ⟨(0 : Int32), rfl, N0, rfl, (by simp [*])⟩)
theorem d23_0 : decode prog_12_method_12_code 0 = .ok (.aload_n 0, 1) := by decide +kernel
theorem d23_1 : decode prog_12_method_12_code 1 = .ok (.getstatic 148, 3) := by decide +kernel
theorem d23_4 : decode prog_12_method_12_code 4 = .ok (.if_acmp .eq 10, 3) := by decide +kernel
theorem d23_7 : decode prog_12_method_12_code 7 = .ok (.aload_n 0, 1) := by decide +kernel
theorem d23_8 : decode prog_12_method_12_code 8 = .ok (.getstatic 154, 3) := by decide +kernel
theorem d23_11 : decode prog_12_method_12_code 11 = .ok (.if_acmp .ne 7, 3) := by decide +kernel
theorem d23_14 : decode prog_12_method_12_code 14 = .ok (.iconst 1, 1) := by decide +kernel
theorem d23_15 : decode prog_12_method_12_code 15 = .ok (.goto 4, 3) := by decide +kernel
theorem d23_18 : decode prog_12_method_12_code 18 = .ok (.iconst 0, 1) := by decide +kernel
theorem d23_19 : decode prog_12_method_12_code 19 = .ok (.ireturn, 1) := by decide +kernel
theorem ef_crr (m : MethodId) (a1 : Addr) : entryFrame m #[(.ref a1)] 1 = mkF m 0 #[.val (.ref a1)] [] := by first | (simp [entryFrame, mkF, argsToLocals, Value.category]; done) | rfl
def Qcrr (Z : State) (a1 : Addr) (u0 : Addr) (u1 : Addr) (u2 : Addr) (u3 : Addr) (u4 : Addr) (h0 : Heap) (n0 : Nat) (v : Option Value) (h : Heap) (L : List Loc) : Prop := ∃ z : Int32, v = some (.int z) ∧ Fr n0 L ∧ h = h0 ∧ (z = if a1 = u3 ∨ a1 = u4 then 1 else 0)
set_option maxRecDepth 65536 in
set_option maxHeartbeats 40000000 in
theorem rmcrr (l : Launch) (Z : State) (a0 : Array Value) (hw : ∀ d ∈ tables_1, d.before a0 Z = true) (ws : List Jvm.Cond) (a1 : Addr) (u0 : Addr) (u1 : Addr) (u2 : Addr) (u3 : Addr) (u4 : Addr) (h0 : Heap) (n0 : Nat) (Z0 : n0 ≤ h0.size) (O0 : Old Z n0 h0) (Su3 : Sta Z Z.heap "com/example/optimistik/optimistik/model/IsolationLevel" "REPEATABLE_READ" "Lcom/example/optimistik/optimistik/model/IsolationLevel;" (.ref u3)) (Su4 : Sta Z Z.heap "com/example/optimistik/optimistik/model/IsolationLevel" "SERIALIZABLE" "Lcom/example/optimistik/optimistik/model/IsolationLevel;" (.ref u4)) :
    MetFree l (⟨"com/example/optimistik/optimistik/engine/CommitChecks", "checksRowsRead", "(Lcom/example/optimistik/optimistik/model/IsolationLevel;)Z"⟩ : MethodName) (head1 (Jvm.Cond.code (⟨"com/example/optimistik/optimistik/engine/CommitChecks", "checksRowsRead", "(Lcom/example/optimistik/optimistik/model/IsolationLevel;)Z"⟩ : MethodName) prog_12_method_12_code 1 (some .boolean) :: ws) ({ frames := 0, cells := 0, slots := 0, locals := 0 } : Room)) (fun a U => a = #[(.ref a1)] ∧ Z.Warmed39 U.vm ∧ U.heap = h0) (fun _ _ _ _ _ => True) (fun _ U o U' => ∃ v L, o = .returned v ∧ Qcrr Z a1 u0 u1 u2 u3 u4 h0 n0 v U'.heap L ∧ FrameEnd U o U' L ({ frames := 0, cells := 0, slots := 0, locals := 0 } : Room).cells ({ frames := 0, cells := 0, slots := 0, locals := 0 } : Room).slots) := by
  refine MetFree.of_bodySF (plainFor_of_name pn_com_example_optimistik_optimistik_engine_CommitChecks) hisR ?_
  intro p e s m args below meth c s₁ Bd hml0 hP hK
  obtain ⟨rfl, hZ, hH0⟩ := hP
  have hx := Bd.exec
  have hby := Bd.bytes
  have hml : c.maxLocals = 1 := hml0
  have hown : s.vm.findClass "com/example/optimistik/optimistik/engine/CommitChecks" = some m.cls := findClass_of_methodNamed Bd.named
  have hnm := (name_of_methodNamed Bd.named Bd.method).1
  have X0 : Stand p l e ({ frames := 0, cells := 0, slots := 0, locals := 0 } : Room) s m #[(.ref a1)] below meth c s₁ [] 0 0 := Stand.of_body Bd
  have e0 : s₁.heap = h0 := by rw [← hH0, Bd.state]; rfl
  have N0 := Fr.nil n0
  refine own_cast (ef_crr m a1) ?_
  show own_Go p e below (fun o U' => ∃ v L, o = .returned v ∧ Qcrr Z a1 u0 u1 u2 u3 u4 h0 n0 v U'.heap L ∧ FrameEnd s o U' L ({ frames := 0, cells := 0, slots := 0, locals := 0 } : Room).cells ({ frames := 0, cells := 0, slots := 0, locals := 0 } : Room).slots) (s₁.setTop (mkF m 0 #[.val (.ref a1)] []))
  refine own_via (fun _ => XS.aloadN X0.here hx rfl (hb hby d23_0) rfl rfl) ?_
  show own_Go p e below _ (s₁.setTop (mkF m 1 #[.val (.ref a1)] [(.ref a1)]))
  obtain ⟨T_1, X_1, e_1, st_1⟩ := getS2 X0 hx hZ hown (host := "") (Or.inl (own_w hw 157 rfl)) Via.refl e0 (Su3.ext O0.2) (g := (mkF m 1 #[.val (.ref a1)] [(.ref a1)])) rfl (hb hby d23_1)
  refine own_via st_1 ?_
  show own_Go p e below _ (T_1.setTop (mkF m 4 #[.val (.ref a1)] [(.ref u3), (.ref a1)]))
  by_cases h3 : a1 = u3
  · refine own_via (fun _ => Jvm.RoadKit.acmp (g := (mkF m 4 #[.val (.ref a1)] [(.ref u3), (.ref a1)])) X_1 hx rfl rfl rfl (pc0 := 4) (pc' := 14) (same := true) rfl (hb hby d23_4) rfl (decide_eq_true (congrArg Value.ref h3)) (by decide) (by decide)) ?_
    show own_Go p e below _ (T_1.setTop (mkF m 14 #[.val (.ref a1)] []))
    refine own_via (fun _ => XS.iconst X_1.here hx rfl (hb hby d23_14)) ?_
    show own_Go p e below _ (T_1.setTop (mkF m 15 #[.val (.ref a1)] [(.int (1 : Int32))]))
    refine own_via (fun _ => XS.goto X_1.here hx rfl (pc0 := 15) (pc' := 19) rfl (hb hby d23_15) (by decide) (by decide)) ?_
    show own_Go p e below _ (T_1.setTop (mkF m 19 #[.val (.ref a1)] [(.int (1 : Int32))]))
    exact own_retv X_1 Bd.notSynchronized hx Bd.returns rfl (Or.inl ⟨rfl, (by simp), _, rfl⟩) (hb hby d23_19) (by decide) (by decide) (by rw [e_1]; exact ⟨(1 : Int32), rfl, N0, rfl, (by simp [*])⟩)
  · refine own_via (fun _ => Jvm.RoadKit.acmp (g := (mkF m 4 #[.val (.ref a1)] [(.ref u3), (.ref a1)])) X_1 hx rfl rfl rfl (pc0 := 4) (pc' := 7) (same := false) rfl (hb hby d23_4) rfl (decide_eq_false fun q => h3 (Value.ref.inj q)) (by decide) (by decide)) ?_
    show own_Go p e below _ (T_1.setTop (mkF m 7 #[.val (.ref a1)] []))
    refine own_via (fun _ => XS.aloadN X_1.here hx rfl (hb hby d23_7) rfl rfl) ?_
    show own_Go p e below _ (T_1.setTop (mkF m 8 #[.val (.ref a1)] [(.ref a1)]))
    obtain ⟨T_2, X_2, e_2, st_2⟩ := getS2 X_1 hx hZ hown (host := "") (Or.inl (own_w hw 138 rfl)) Via.refl e_1 (Su4.ext O0.2) (g := (mkF m 8 #[.val (.ref a1)] [(.ref a1)])) rfl (hb hby d23_8)
    refine own_via st_2 ?_
    show own_Go p e below _ (T_2.setTop (mkF m 11 #[.val (.ref a1)] [(.ref u4), (.ref a1)]))
    by_cases h4 : a1 = u4
    · refine own_via (fun _ => Jvm.RoadKit.acmp (g := (mkF m 11 #[.val (.ref a1)] [(.ref u4), (.ref a1)])) X_2 hx rfl rfl rfl (pc0 := 11) (pc' := 14) (same := true) rfl (hb hby d23_11) rfl (decide_eq_true (congrArg Value.ref h4)) (by decide) (by decide)) ?_
      show own_Go p e below _ (T_2.setTop (mkF m 14 #[.val (.ref a1)] []))
      refine own_via (fun _ => XS.iconst X_2.here hx rfl (hb hby d23_14)) ?_
      show own_Go p e below _ (T_2.setTop (mkF m 15 #[.val (.ref a1)] [(.int (1 : Int32))]))
      refine own_via (fun _ => XS.goto X_2.here hx rfl (pc0 := 15) (pc' := 19) rfl (hb hby d23_15) (by decide) (by decide)) ?_
      show own_Go p e below _ (T_2.setTop (mkF m 19 #[.val (.ref a1)] [(.int (1 : Int32))]))
      exact own_retv X_2 Bd.notSynchronized hx Bd.returns rfl (Or.inl ⟨rfl, (by simp), _, rfl⟩) (hb hby d23_19) (by decide) (by decide) (by rw [e_2]; exact ⟨(1 : Int32), rfl, N0, rfl, (by simp [*])⟩)
    · refine own_via (fun _ => Jvm.RoadKit.acmp (g := (mkF m 11 #[.val (.ref a1)] [(.ref u4), (.ref a1)])) X_2 hx rfl rfl rfl (pc0 := 11) (pc' := 18) (same := false) rfl (hb hby d23_11) rfl (decide_eq_false fun q => h4 (Value.ref.inj q)) (by decide) (by decide)) ?_
      show own_Go p e below _ (T_2.setTop (mkF m 18 #[.val (.ref a1)] []))
      refine own_via (fun _ => XS.iconst X_2.here hx rfl (hb hby d23_18)) ?_
      show own_Go p e below _ (T_2.setTop (mkF m 19 #[.val (.ref a1)] [(.int (0 : Int32))]))
      exact own_retv X_2 Bd.notSynchronized hx Bd.returns rfl (Or.inl ⟨rfl, (by simp), _, rfl⟩) (hb hby d23_19) (by decide) (by decide) (by rw [e_2]; exact ⟨(0 : Int32), rfl, N0, rfl, (by simp [*])⟩)
theorem d7_0 : decode jdk_35_method_26_code 0 = .ok (.aload_n 0, 1) := by decide +kernel
theorem d7_1 : decode jdk_35_method_26_code 1 = .ok (.invokespecial 270, 3) := by decide +kernel
theorem d7_4 : decode jdk_35_method_26_code 4 = .ok (.aload_n 0, 1) := by decide +kernel
theorem d7_5 : decode jdk_35_method_26_code 5 = .ok (.lload_n 1, 1) := by decide +kernel
theorem d7_6 : decode jdk_35_method_26_code 6 = .ok (.putfield 273, 3) := by decide +kernel
theorem d7_9 : decode jdk_35_method_26_code 9 = .ok (.return_, 1) := by decide +kernel
theorem pn_java_lang_Long : plainName "java/lang/Long" = true := by first | (simp [plainName, overriddenIn]; done) | decide +kernel
theorem ef_longInit (m : MethodId) (a1 : Addr) (q2 : Int64) : entryFrame m #[(.ref a1), (.long q2)] 3 = mkF m 0 #[.val (.ref a1), .val (.long q2), .second] [] := by first | (simp [entryFrame, mkF, argsToLocals, Value.category]; done) | rfl
def QlongInit (Z : State) (a1 : Addr) (q2 : Int64) (h0 : Heap) (n0 : Nat) (v : Option Value) (h : Heap) (L : List Loc) : Prop := v = none ∧ Fr n0 L ∧ Keep h0 h [a1]
set_option maxRecDepth 65536 in
set_option maxHeartbeats 40000000 in
theorem rmlongInit (l : Launch) (Z : State) (a0 : Array Value) (hw : ∀ d ∈ tables_1, d.before a0 Z = true) (ws : List Jvm.Cond) (a1 : Addr) (q2 : Int64) (h0 : Heap) (n0 : Nat) (Z0 : n0 ≤ h0.size) (E1 : Exa Z h0 a1 "java/lang/Long") (F1 : Fld Z h0 a1 "java/lang/Long" "value" "J" (.long (0 : Int64))) (g1 : n0 ≤ a1) :
    MetFree l (⟨"java/lang/Long", "<init>", "(J)V"⟩ : MethodName) (head1 (Jvm.Cond.code (⟨"java/lang/Long", "<init>", "(J)V"⟩ : MethodName) jdk_35_method_26_code 3 none :: ws) ({ frames := 2, cells := 0, slots := 0, locals := 24 } : Room)) (fun a U => a = #[(.ref a1), (.long q2)] ∧ Z.Warmed39 U.vm ∧ U.heap = h0) (fun _ _ _ _ _ => True) (fun _ U o U' => ∃ v L, o = .returned v ∧ QlongInit Z a1 q2 h0 n0 v U'.heap L ∧ FrameEnd U o U' L ({ frames := 2, cells := 0, slots := 0, locals := 24 } : Room).cells ({ frames := 2, cells := 0, slots := 0, locals := 24 } : Room).slots) := by
  refine MetFree.of_bodySF (plainFor_of_name pn_java_lang_Long) hisR ?_
  intro p e s m args below meth c s₁ Bd hml0 hP hK
  obtain ⟨rfl, hZ, hH0⟩ := hP
  have hx := Bd.exec
  have hby := Bd.bytes
  have hml : c.maxLocals = 3 := hml0
  have hown : s.vm.findClass "java/lang/Long" = some m.cls := findClass_of_methodNamed Bd.named
  have hnm := (name_of_methodNamed Bd.named Bd.method).1
  have X0 : Stand p l e ({ frames := 2, cells := 0, slots := 0, locals := 24 } : Room) s m #[(.ref a1), (.long q2)] below meth c s₁ [] 0 0 := Stand.of_body Bd
  have e0 : s₁.heap = h0 := by rw [← hH0, Bd.state]; rfl
  have N0 := Fr.nil n0
  refine own_cast (ef_longInit m a1 q2) ?_
  show own_Go p e below (fun o U' => ∃ v L, o = .returned v ∧ QlongInit Z a1 q2 h0 n0 v U'.heap L ∧ FrameEnd s o U' L ({ frames := 2, cells := 0, slots := 0, locals := 24 } : Room).cells ({ frames := 2, cells := 0, slots := 0, locals := 24 } : Room).slots) (s₁.setTop (mkF m 0 #[.val (.ref a1), .val (.long q2), .second] []))
  refine own_via (fun _ => XS.aloadN X0.here hx rfl (hb hby d7_0) rfl rfl) ?_
  show own_Go p e below _ (s₁.setTop (mkF m 1 #[.val (.ref a1), .val (.long q2), .second] [(.ref a1)]))
  obtain ⟨_, _, ⟨T_1, L_1, k_1, n_1⟩, -, X_1, ⟨Lc_1, hQ_1, l_1, y_1, z_1⟩, st_1⟩ := X0.specialBack hx (y := (⟨"java/lang/Number", "<init>", "()V"⟩ : MethodName)) rfl hown (mvT hZ (own_w hw 41 rfl)) (mvT hZ (own_w hw 42 rfl)) (mvT hZ (own_w hw 46 rfl)) (by decide) (backOf (W := 0) (rmnum l Z a0 hw [] a1 h0 n0 Z0 ) hZ (own_w hw 46 rfl) (own_w hw 45 rfl) (by decide) (by decide)) (g := (mkF m 1 #[.val (.ref a1), .val (.long q2), .second] [(.ref a1)])) rfl (by rw [hml]; rfl) (Steps.refl _) (a := a1) (argsL := []) (rest := []) (lenOf pd_0 rfl) rfl (by show 2 * 0 + _ ≤ _; exact Nat.le_of_eq rfl) (hb hby d7_1) (fun _ _ => ⟨rfl, e0, (by decide : 0 + 0 ≤ _), (by decide : 0 + 0 ≤ _)⟩)
  dsimp only [Pt.U, Pt.locs, Pt.cells, Pt.slots] at X_1 l_1 y_1 z_1 st_1 hQ_1
  subst l_1 y_1 z_1
  obtain ⟨rfl, Nq_1, K_1q⟩ := hQ_1
  have N_1 := Fr.app N0 Nq_1
  refine own_via (fun _ k => st_1.trans k) ?_
  show own_Go p e below _ (T_1.setTop (mkF m 4 #[.val (.ref a1), .val (.long q2), .second] []))
  refine own_via (fun _ => XS.aloadN X_1.here hx rfl (hb hby d7_4) rfl rfl) ?_
  show own_Go p e below _ (T_1.setTop (mkF m 5 #[.val (.ref a1), .val (.long q2), .second] [(.ref a1)]))
  refine own_via (fun _ => XS.lloadN X_1.here hx rfl (hb hby d7_5) rfl) ?_
  show own_Go p e below _ (T_1.setTop (mkF m 6 #[.val (.ref a1), .val (.long q2), .second] [(.long q2), (.ref a1)]))
  have K_2 : Keep h0 T_1.heap [] := Keep.trans (ws := []) (Keep.refl h0 []) K_1q all0
  obtain ⟨T_3, h_3, X_3, e_3, W_3, st_3⟩ := putF X_1 hx hZ hown (host := "") (Or.inl (own_w hw 48 rfl)) Via.refl rfl (F1.keep K_2 nin0) (E1.keep K_2) (Or.inr ⟨(own_w hw 49 rfl), rfl, hnm⟩) (own_w hw 36 rfl) (ty := .long) (by decide) rfl rfl (g := (mkF m 6 #[.val (.ref a1), .val (.long q2), .second] [(.long q2), (.ref a1)])) rfl rfl (hb hby d7_6)
  have F_4 : Fld Z h_3 a1 "java/lang/Long" "value" "J" (.long q2) := (F1.keep K_2 nin0).same W_3
  have N_3 := Fr.snoc X_3 N_1 g1
  refine own_via st_3 ?_
  show own_Go p e below _ (T_3.setTop (mkF m 9 #[.val (.ref a1), .val (.long q2), .second] []))
  have K_5 : Keep h0 h_3 [a1] := Keep.wr (ws := [a1]) (own_keep_mono K_2 (by simp)) W_3 (Or.inl (List.mem_of_getElem? (i := 0) rfl))
  exact own_ret0 X_3 Bd.notSynchronized hx Bd.returns (hb hby d7_9) (by decide) (by decide) (by rw [e_3]; exact ⟨rfl, N_3, K_5⟩)
theorem own_inL {c : Cell} {q : Int64} (S : c.slots.size = (256 : Int32).toNatClampNeg) (h1 : ¬ (lcmpW q (-128 : Int64)) < (0 : Int32)) (h2 : ¬ (0 : Int32) < (lcmpW q (127 : Int64))) : ¬ ((q.toInt32 + (128 : Int32)) < 0 ∨ c.slots.size ≤ (q.toInt32 + (128 : Int32)).toNatClampNeg) := by
  have g1 : ¬ q < -128 := fun x => h1 ((lw_lt _ _).mpr x)
  have g2 : ¬ 127 < q := fun x => h2 ((lw_gt _ _).mpr x)
  rw [Int64.lt_iff_toInt_lt] at g1 g2
  have e1 : (-128 : Int64).toInt = -128 := by decide
  have e2 : (127 : Int64).toInt = 127 := by decide
  have e3 : q = Int64.ofInt q.toInt := (Int64.ofInt_toInt q).symm
  obtain ⟨n, hn⟩ : ∃ n : Nat, q.toInt + 128 = n := ⟨(q.toInt + 128).toNat, by omega⟩
  have hn2 : n < 256 := by omega
  have e4 : q = Int64.ofInt ((n : Int) - 128) := by rw [e3]; congr 1; omega
  have t : ∀ k : Fin 256, ¬ ((Int64.ofInt ((k.val : Int) - 128)).toInt32 + (128 : Int32) < 0 ∨ (256 : Int32).toNatClampNeg ≤ ((Int64.ofInt ((k.val : Int) - 128)).toInt32 + (128 : Int32)).toNatClampNeg) := by decide +kernel
  rw [S, e4]
  exact t ⟨n, hn2⟩

theorem d6_0 : decode jdk_35_method_24_code 0 = .ok (.sipush 128, 3) := by decide +kernel
theorem d6_3 : decode jdk_35_method_24_code 3 = .ok (.istore_n 2, 1) := by decide +kernel
theorem d6_4 : decode jdk_35_method_24_code 4 = .ok (.lload_n 0, 1) := by decide +kernel
theorem d6_5 : decode jdk_35_method_24_code 5 = .ok (.ldc2_w 230, 3) := by decide +kernel
theorem d6_8 : decode jdk_35_method_24_code 8 = .ok (.lcmp, 1) := by decide +kernel
theorem d6_9 : decode jdk_35_method_24_code 9 = .ok (.ifCond .lt 22, 3) := by decide +kernel
theorem d6_12 : decode jdk_35_method_24_code 12 = .ok (.lload_n 0, 1) := by decide +kernel
theorem d6_13 : decode jdk_35_method_24_code 13 = .ok (.ldc2_w 232, 3) := by decide +kernel
theorem d6_16 : decode jdk_35_method_24_code 16 = .ok (.lcmp, 1) := by decide +kernel
theorem d6_17 : decode jdk_35_method_24_code 17 = .ok (.ifCond .gt 14, 3) := by decide +kernel
theorem d6_20 : decode jdk_35_method_24_code 20 = .ok (.getstatic 234, 3) := by decide +kernel
theorem d6_23 : decode jdk_35_method_24_code 23 = .ok (.lload_n 0, 1) := by decide +kernel
theorem d6_24 : decode jdk_35_method_24_code 24 = .ok (.l2i, 1) := by decide +kernel
theorem d6_25 : decode jdk_35_method_24_code 25 = .ok (.sipush 128, 3) := by decide +kernel
theorem d6_28 : decode jdk_35_method_24_code 28 = .ok (.iadd, 1) := by decide +kernel
theorem d6_29 : decode jdk_35_method_24_code 29 = .ok (.aaload, 1) := by decide +kernel
theorem d6_30 : decode jdk_35_method_24_code 30 = .ok (.areturn, 1) := by decide +kernel
theorem d6_31 : decode jdk_35_method_24_code 31 = .ok (.new 1, 3) := by decide +kernel
theorem d6_34 : decode jdk_35_method_24_code 34 = .ok (.dup, 1) := by decide +kernel
theorem d6_35 : decode jdk_35_method_24_code 35 = .ok (.lload_n 0, 1) := by decide +kernel
theorem d6_36 : decode jdk_35_method_24_code 36 = .ok (.invokespecial 240, 3) := by decide +kernel
theorem d6_39 : decode jdk_35_method_24_code 39 = .ok (.areturn, 1) := by decide +kernel
theorem pd_1 : parseMethodDescriptor "(J)V" = some ⟨[.long], none⟩ := by decide +kernel
theorem ef_valueOf (m : MethodId) (q1 : Int64) : entryFrame m #[(.long q1)] 3 = mkF m 0 #[.val (.long q1), .second, .unset] [] := by first | (simp [entryFrame, mkF, argsToLocals, Value.category]; done) | rfl
def QvalueOf (Z : State) (q1 : Int64) (la : Addr) (lc : Cell) (lval : Int32 → Value) (h0 : Heap) (n0 : Nat) (v : Option Value) (h : Heap) (L : List Loc) : Prop := ∃ r : Addr, v = some (.ref r) ∧ Fr n0 L ∧ Keep h0 h []
set_option maxRecDepth 65536 in
set_option maxHeartbeats 40000000 in
theorem rmvalueOf (l : Launch) (Z : State) (a0 : Array Value) (hw : ∀ d ∈ tables_1, d.before a0 Z = true) (ws : List Jvm.Cond) (q1 : Int64) (la : Addr) (lc : Cell) (lval : Int32 → Value) (h0 : Heap) (n0 : Nat) (Z0 : n0 ≤ h0.size) (O0 : Old Z n0 h0) (Slc : Sta Z Z.heap "java/lang/Long$LongCache" "cache" "[Ljava/lang/Long;" (.ref la)) (hbx : Bxs Z la lc "java/lang/Long" "J" 256 lval) :
    MetFree l (⟨"java/lang/Long", "valueOf", "(J)Ljava/lang/Long;"⟩ : MethodName) (head1 (Jvm.Cond.code (⟨"java/lang/Long", "valueOf", "(J)Ljava/lang/Long;"⟩ : MethodName) jdk_35_method_24_code 3 (some (.object "java/lang/Long")) :: ws) ({ frames := 3, cells := 1, slots := 1, locals := 41 } : Room)) (fun a U => a = #[(.long q1)] ∧ Z.Warmed39 U.vm ∧ U.heap = h0) (fun _ _ _ _ _ => True) (fun _ U o U' => ∃ v L, o = .returned v ∧ QvalueOf Z q1 la lc lval h0 n0 v U'.heap L ∧ FrameEnd U o U' L ({ frames := 3, cells := 1, slots := 1, locals := 41 } : Room).cells ({ frames := 3, cells := 1, slots := 1, locals := 41 } : Room).slots) := by
  refine MetFree.of_bodySF (plainFor_of_name pn_java_lang_Long) hisR ?_
  intro p e s m args below meth c s₁ Bd hml0 hP hK
  obtain ⟨rfl, hZ, hH0⟩ := hP
  have hx := Bd.exec
  have hby := Bd.bytes
  have hml : c.maxLocals = 3 := hml0
  have hown : s.vm.findClass "java/lang/Long" = some m.cls := findClass_of_methodNamed Bd.named
  have hnm := (name_of_methodNamed Bd.named Bd.method).1
  have X0 : Stand p l e ({ frames := 3, cells := 1, slots := 1, locals := 41 } : Room) s m #[(.long q1)] below meth c s₁ [] 0 0 := Stand.of_body Bd
  have e0 : s₁.heap = h0 := by rw [← hH0, Bd.state]; rfl
  have N0 := Fr.nil n0
  refine own_cast (ef_valueOf m q1) ?_
  show own_Go p e below (fun o U' => ∃ v L, o = .returned v ∧ QvalueOf Z q1 la lc lval h0 n0 v U'.heap L ∧ FrameEnd s o U' L ({ frames := 3, cells := 1, slots := 1, locals := 41 } : Room).cells ({ frames := 3, cells := 1, slots := 1, locals := 41 } : Room).slots) (s₁.setTop (mkF m 0 #[.val (.long q1), .second, .unset] []))
  refine own_via (fun _ => XS.sipush X0.here hx rfl (hb hby d6_0)) ?_
  show own_Go p e below _ (s₁.setTop (mkF m 3 #[.val (.long q1), .second, .unset] [(.int (128 : Int32))]))
  refine own_via (fun _ => XS.istoreN X0.here hx rfl (hb hby d6_3) rfl (l' := #[.val (.long q1), .second, .val (.int (128 : Int32))]) rfl) ?_
  show own_Go p e below _ (s₁.setTop (mkF m 4 #[.val (.long q1), .second, .val (.int (128 : Int32))] []))
  refine own_via (fun _ => XS.lloadN X0.here hx rfl (hb hby d6_4) rfl) ?_
  show own_Go p e below _ (s₁.setTop (mkF m 5 #[.val (.long q1), .second, .val (.int (128 : Int32))] [(.long q1)]))
  refine own_via (X0.ldc2Long hx hown (mvT hZ (own_w hw 34 rfl)) (g := (mkF m 5 #[.val (.long q1), .second, .val (.int (128 : Int32))] [(.long q1)])) rfl (hb hby d6_5)) ?_
  show own_Go p e below _ (s₁.setTop (mkF m 8 #[.val (.long q1), .second, .val (.int (128 : Int32))] [(.long (-128 : Int64)), (.long q1)]))
  refine own_via (fun _ => XS.lcmp X0.here hx rfl (hb hby d6_8) rfl) ?_
  show own_Go p e below _ (s₁.setTop (mkF m 9 #[.val (.long q1), .second, .val (.int (128 : Int32))] [(.int (lcmpW q1 (-128 : Int64)))]))
  by_cases h1 : (lcmpW q1 (-128 : Int64)) < (0 : Int32)
  · refine own_via (fun _ => XS.ifYes X0.here hx rfl (pc0 := 9) (pc' := 31) rfl (hb hby d6_9) rfl ((if0 _ _).trans (tlt (h1 : (lcmpW q1 (-128 : Int64)) < (0 : Int32))).1) (by decide) (by decide)) ?_
    show own_Go p e below _ (s₁.setTop (mkF m 31 #[.val (.long q1), .second, .val (.int (128 : Int32))] []))
    obtain ⟨T_1, h_1, X_1, e_1, E_1, A_1, D_1, -, st_1⟩ := newO X0 hx hZ hown (own_w hw 35 rfl) (own_w hw 36 rfl) (own_w hw 32 rfl) e0 (g := (mkF m 31 #[.val (.long q1), .second, .val (.int (128 : Int32))] [])) rfl (hb hby d6_31) (by decide) (by decide)
    obtain ⟨b_1, g_1⟩ : ∃ z, z = h0.size := ⟨_, rfl⟩
    rw [← g_1] at A_1 D_1 st_1
    have F_2 : Fld Z h_1 b_1 "java/lang/Long" "value" "J" (.long (0 : Int64)) := D_1 (Or.inr (own_w hw 49 rfl)) (ty := .long) (by decide)
    refine own_via st_1 ?_
    show own_Go p e below _ (T_1.setTop (mkF m 34 #[.val (.long q1), .second, .val (.int (128 : Int32))] [(.ref b_1)]))
    refine own_via (fun _ => XS.dup X_1.here hx rfl (hb hby d6_34) rfl rfl) ?_
    show own_Go p e below _ (T_1.setTop (mkF m 35 #[.val (.long q1), .second, .val (.int (128 : Int32))] [(.ref b_1), (.ref b_1)]))
    refine own_via (fun _ => XS.lloadN X_1.here hx rfl (hb hby d6_35) rfl) ?_
    show own_Go p e below _ (T_1.setTop (mkF m 36 #[.val (.long q1), .second, .val (.int (128 : Int32))] [(.long q1), (.ref b_1), (.ref b_1)]))
    have K_3 : Keep h0 h_1 [] := (Keep.refl h0 []).ext E_1
    obtain ⟨_, _, ⟨T_4, L_4, k_4, n_4⟩, -, X_4, ⟨Lc_4, hQ_4, l_4, y_4, z_4⟩, st_4⟩ := X_1.specialBack hx (y := (⟨"java/lang/Long", "<init>", "(J)V"⟩ : MethodName)) rfl hown (mvT hZ (own_w hw 37 rfl)) (mvT hZ (own_w hw 38 rfl)) (mvT hZ (own_w hw 40 rfl)) (by decide) (backOf (W := 1) (rmlongInit l Z a0 hw [] b_1 q1 h_1 n0 (Nat.le_trans Z0 K_3.1) A_1 F_2 (Nat.le_trans Z0 (Nat.le_of_eq g_1.symm))) hZ (own_w hw 40 rfl) (own_w hw 32 rfl) (by decide) (by decide)) (g := (mkF m 36 #[.val (.long q1), .second, .val (.int (128 : Int32))] [(.long q1), (.ref b_1), (.ref b_1)])) rfl (by rw [hml]; rfl) (Steps.refl _) (a := b_1) (argsL := [(.long q1)]) (rest := [(.ref b_1)]) (lenOf pd_1 rfl) rfl (by show 2 * 0 + _ ≤ _; exact Nat.le_of_eq rfl) (hb hby d6_36) (fun _ _ => ⟨rfl, e_1, (by decide : 1 + 0 ≤ _), (by decide : 1 + 0 ≤ _)⟩)
    dsimp only [Pt.U, Pt.locs, Pt.cells, Pt.slots] at X_4 l_4 y_4 z_4 st_4 hQ_4
    subst l_4 y_4 z_4
    obtain ⟨rfl, Nq_4, K_4q⟩ := hQ_4
    have N_4 := Fr.app N0 Nq_4
    refine own_via (fun _ k => st_4.trans k) ?_
    show own_Go p e below _ (T_4.setTop (mkF m 39 #[.val (.long q1), .second, .val (.int (128 : Int32))] [(.ref b_1)]))
    have K_5 : Keep h0 T_4.heap [] := Keep.trans (ws := []) K_3 K_4q (allS (Or.inr (Nat.le_of_eq g_1.symm)) all0)
    exact own_retv X_4 Bd.notSynchronized hx Bd.returns rfl (Or.inr (Or.inr (Or.inr (Or.inr ⟨rfl, rfl, rfl⟩)))) (hb hby d6_39) (by decide) (by decide) ⟨b_1, rfl, N_4, K_5⟩
  · refine own_via (fun _ => XS.ifNo X0.here hx rfl (hb hby d6_9) rfl ((if0 _ _).trans (flt (h1 : ¬ ((lcmpW q1 (-128 : Int64)) < (0 : Int32)))).1)) ?_
    show own_Go p e below _ (s₁.setTop (mkF m 12 #[.val (.long q1), .second, .val (.int (128 : Int32))] []))
    refine own_via (fun _ => XS.lloadN X0.here hx rfl (hb hby d6_12) rfl) ?_
    show own_Go p e below _ (s₁.setTop (mkF m 13 #[.val (.long q1), .second, .val (.int (128 : Int32))] [(.long q1)]))
    refine own_via (X0.ldc2Long hx hown (mvT hZ (own_w hw 146 rfl)) (g := (mkF m 13 #[.val (.long q1), .second, .val (.int (128 : Int32))] [(.long q1)])) rfl (hb hby d6_13)) ?_
    show own_Go p e below _ (s₁.setTop (mkF m 16 #[.val (.long q1), .second, .val (.int (128 : Int32))] [(.long (127 : Int64)), (.long q1)]))
    refine own_via (fun _ => XS.lcmp X0.here hx rfl (hb hby d6_16) rfl) ?_
    show own_Go p e below _ (s₁.setTop (mkF m 17 #[.val (.long q1), .second, .val (.int (128 : Int32))] [(.int (lcmpW q1 (127 : Int64)))]))
    by_cases h2 : (0 : Int32) < (lcmpW q1 (127 : Int64))
    · refine own_via (fun _ => XS.ifYes X0.here hx rfl (pc0 := 17) (pc' := 31) rfl (hb hby d6_17) rfl ((if0 _ _).trans (tlt (h2 : (0 : Int32) < (lcmpW q1 (127 : Int64)))).2.2.1) (by decide) (by decide)) ?_
      show own_Go p e below _ (s₁.setTop (mkF m 31 #[.val (.long q1), .second, .val (.int (128 : Int32))] []))
      obtain ⟨T_6, h_6, X_6, e_6, E_6, A_6, D_6, -, st_6⟩ := newO X0 hx hZ hown (own_w hw 35 rfl) (own_w hw 36 rfl) (own_w hw 32 rfl) e0 (g := (mkF m 31 #[.val (.long q1), .second, .val (.int (128 : Int32))] [])) rfl (hb hby d6_31) (by decide) (by decide)
      obtain ⟨b_6, g_6⟩ : ∃ z, z = h0.size := ⟨_, rfl⟩
      rw [← g_6] at A_6 D_6 st_6
      have F_7 : Fld Z h_6 b_6 "java/lang/Long" "value" "J" (.long (0 : Int64)) := D_6 (Or.inr (own_w hw 49 rfl)) (ty := .long) (by decide)
      refine own_via st_6 ?_
      show own_Go p e below _ (T_6.setTop (mkF m 34 #[.val (.long q1), .second, .val (.int (128 : Int32))] [(.ref b_6)]))
      refine own_via (fun _ => XS.dup X_6.here hx rfl (hb hby d6_34) rfl rfl) ?_
      show own_Go p e below _ (T_6.setTop (mkF m 35 #[.val (.long q1), .second, .val (.int (128 : Int32))] [(.ref b_6), (.ref b_6)]))
      refine own_via (fun _ => XS.lloadN X_6.here hx rfl (hb hby d6_35) rfl) ?_
      show own_Go p e below _ (T_6.setTop (mkF m 36 #[.val (.long q1), .second, .val (.int (128 : Int32))] [(.long q1), (.ref b_6), (.ref b_6)]))
      have K_8 : Keep h0 h_6 [] := (Keep.refl h0 []).ext E_6
      obtain ⟨_, _, ⟨T_9, L_9, k_9, n_9⟩, -, X_9, ⟨Lc_9, hQ_9, l_9, y_9, z_9⟩, st_9⟩ := X_6.specialBack hx (y := (⟨"java/lang/Long", "<init>", "(J)V"⟩ : MethodName)) rfl hown (mvT hZ (own_w hw 37 rfl)) (mvT hZ (own_w hw 38 rfl)) (mvT hZ (own_w hw 40 rfl)) (by decide) (backOf (W := 1) (rmlongInit l Z a0 hw [] b_6 q1 h_6 n0 (Nat.le_trans Z0 K_8.1) A_6 F_7 (Nat.le_trans Z0 (Nat.le_of_eq g_6.symm))) hZ (own_w hw 40 rfl) (own_w hw 32 rfl) (by decide) (by decide)) (g := (mkF m 36 #[.val (.long q1), .second, .val (.int (128 : Int32))] [(.long q1), (.ref b_6), (.ref b_6)])) rfl (by rw [hml]; rfl) (Steps.refl _) (a := b_6) (argsL := [(.long q1)]) (rest := [(.ref b_6)]) (lenOf pd_1 rfl) rfl (by show 2 * 0 + _ ≤ _; exact Nat.le_of_eq rfl) (hb hby d6_36) (fun _ _ => ⟨rfl, e_6, (by decide : 1 + 0 ≤ _), (by decide : 1 + 0 ≤ _)⟩)
      dsimp only [Pt.U, Pt.locs, Pt.cells, Pt.slots] at X_9 l_9 y_9 z_9 st_9 hQ_9
      subst l_9 y_9 z_9
      obtain ⟨rfl, Nq_9, K_9q⟩ := hQ_9
      have N_9 := Fr.app N0 Nq_9
      refine own_via (fun _ k => st_9.trans k) ?_
      show own_Go p e below _ (T_9.setTop (mkF m 39 #[.val (.long q1), .second, .val (.int (128 : Int32))] [(.ref b_6)]))
      have K_10 : Keep h0 T_9.heap [] := Keep.trans (ws := []) K_8 K_9q (allS (Or.inr (Nat.le_of_eq g_6.symm)) all0)
      exact own_retv X_9 Bd.notSynchronized hx Bd.returns rfl (Or.inr (Or.inr (Or.inr (Or.inr ⟨rfl, rfl, rfl⟩)))) (hb hby d6_39) (by decide) (by decide) ⟨b_6, rfl, N_9, K_10⟩
    · refine own_via (fun _ => XS.ifNo X0.here hx rfl (hb hby d6_17) rfl ((if0 _ _).trans (flt (h2 : ¬ ((0 : Int32) < (lcmpW q1 (127 : Int64))))).2.2.1)) ?_
      show own_Go p e below _ (s₁.setTop (mkF m 20 #[.val (.long q1), .second, .val (.int (128 : Int32))] []))
      obtain ⟨T_11, X_11, e_11, st_11⟩ := getS2 X0 hx hZ hown (host := "") (Or.inl (own_w hw 147 rfl)) Via.refl e0 (Slc.ext O0.2) (g := (mkF m 20 #[.val (.long q1), .second, .val (.int (128 : Int32))] [])) rfl (hb hby d6_20)
      refine own_via st_11 ?_
      show own_Go p e below _ (T_11.setTop (mkF m 23 #[.val (.long q1), .second, .val (.int (128 : Int32))] [(.ref la)]))
      refine own_via (fun _ => XS.lloadN X_11.here hx rfl (hb hby d6_23) rfl) ?_
      show own_Go p e below _ (T_11.setTop (mkF m 24 #[.val (.long q1), .second, .val (.int (128 : Int32))] [(.long q1), (.ref la)]))
      refine own_via (fun _ => XS.l2i X_11.here hx rfl (hb hby d6_24) rfl) ?_
      show own_Go p e below _ (T_11.setTop (mkF m 25 #[.val (.long q1), .second, .val (.int (128 : Int32))] [(.int (q1.toInt32)), (.ref la)]))
      refine own_via (fun _ => XS.sipush X_11.here hx rfl (hb hby d6_25)) ?_
      show own_Go p e below _ (T_11.setTop (mkF m 28 #[.val (.long q1), .second, .val (.int (128 : Int32))] [(.int (128 : Int32)), (.int (q1.toInt32)), (.ref la)]))
      refine own_via (fun _ => XS.iadd X_11.here hx rfl (hb hby d6_28) rfl) ?_
      show own_Go p e below _ (T_11.setTop (mkF m 29 #[.val (.long q1), .second, .val (.int (128 : Int32))] [(.int ((q1.toInt32) + (128 : Int32))), (.ref la)]))
      obtain ⟨ArL, SL, NL⟩ := hbx.ext O0.2
      have in_12 : ¬ (((q1.toInt32) + (128 : Int32)) < 0 ∨ lc.slots.size ≤ (((q1.toInt32) + (128 : Int32))).toNatClampNeg) := own_inL SL h1 h2
      obtain ⟨bx, hbv, -, -⟩ := hbx.2.2.2 _ in_12
      refine own_via (fun _ => X_11.aaload hx (j := ((q1.toInt32) + (128 : Int32))) (v := .ref bx) (by rw [e_11]; exact ArL.1) (State.isArrayOf_alike hZ.alike ArL.2.1) rfl ArL.2.2 in_12 hbv (g := (mkF m 29 #[.val (.long q1), .second, .val (.int (128 : Int32))] [(.int ((q1.toInt32) + (128 : Int32))), (.ref la)])) rfl rfl (hb hby d6_29) _) ?_
      show own_Go p e below _ (T_11.setTop (mkF m 30 #[.val (.long q1), .second, .val (.int (128 : Int32))] [(.ref bx)]))
      exact own_retv X_11 Bd.notSynchronized hx Bd.returns rfl (Or.inr (Or.inr (Or.inr (Or.inr ⟨rfl, rfl, rfl⟩)))) (hb hby d6_30) (by decide) (by decide) (by rw [e_11]; exact ⟨bx, rfl, N0, (Keep.refl h0 [])⟩)
theorem d11_0 : decode jdk_39_method_1_code 0 = .ok (.aload_n 0, 1) := by decide +kernel
theorem d11_1 : decode jdk_39_method_1_code 1 = .ok (.invokespecial 1, 3) := by decide +kernel
theorem d11_4 : decode jdk_39_method_1_code 4 = .ok (.aload_n 0, 1) := by decide +kernel
theorem d11_5 : decode jdk_39_method_1_code 5 = .ok (.iconst 0, 1) := by decide +kernel
theorem d11_6 : decode jdk_39_method_1_code 6 = .ok (.putfield 7, 3) := by decide +kernel
theorem d11_9 : decode jdk_39_method_1_code 9 = .ok (.return_, 1) := by decide +kernel
theorem pn_java_util_AbstractList : plainName "java/util/AbstractList" = true := by first | (simp [plainName, overriddenIn]; done) | decide +kernel
theorem ef_abl (m : MethodId) (a1 : Addr) : entryFrame m #[(.ref a1)] 1 = mkF m 0 #[.val (.ref a1)] [] := by first | (simp [entryFrame, mkF, argsToLocals, Value.category]; done) | rfl
def Qabl (Z : State) (a1 : Addr) (h0 : Heap) (n0 : Nat) (v : Option Value) (h : Heap) (L : List Loc) : Prop := v = none ∧ Fr n0 L ∧ Keep h0 h [a1] ∧ (Fld Z h a1 "java/util/AbstractList" "modCount" "I" (.int (0 : Int32))) ∧ (Fld Z h a1 "java/util/ArrayList" "size" "I" (.int (0 : Int32))) ∧ (Fld Z h a1 "java/util/ArrayList" "elementData" "[Ljava/lang/Object;" .null)
set_option maxRecDepth 65536 in
set_option maxHeartbeats 40000000 in
theorem rmabl (l : Launch) (Z : State) (a0 : Array Value) (hw : ∀ d ∈ tables_1, d.before a0 Z = true) (ws : List Jvm.Cond) (a1 : Addr) (h0 : Heap) (n0 : Nat) (Z0 : n0 ≤ h0.size) (E1 : Exa Z h0 a1 "java/util/ArrayList") (Fm : Fld Z h0 a1 "java/util/AbstractList" "modCount" "I" (.int (0 : Int32))) (Fz : Fld Z h0 a1 "java/util/ArrayList" "size" "I" (.int (0 : Int32))) (Fe : Fld Z h0 a1 "java/util/ArrayList" "elementData" "[Ljava/lang/Object;" .null) (g1 : n0 ≤ a1) :
    MetFree l (⟨"java/util/AbstractList", "<init>", "()V"⟩ : MethodName) (head1 (Jvm.Cond.code (⟨"java/util/AbstractList", "<init>", "()V"⟩ : MethodName) jdk_39_method_1_code 1 none :: ws) ({ frames := 2, cells := 0, slots := 0, locals := 24 } : Room)) (fun a U => a = #[(.ref a1)] ∧ Z.Warmed39 U.vm ∧ U.heap = h0) (fun _ _ _ _ _ => True) (fun _ U o U' => ∃ v L, o = .returned v ∧ Qabl Z a1 h0 n0 v U'.heap L ∧ FrameEnd U o U' L ({ frames := 2, cells := 0, slots := 0, locals := 24 } : Room).cells ({ frames := 2, cells := 0, slots := 0, locals := 24 } : Room).slots) := by
  refine MetFree.of_bodySF (plainFor_of_name pn_java_util_AbstractList) hisR ?_
  intro p e s m args below meth c s₁ Bd hml0 hP hK
  obtain ⟨rfl, hZ, hH0⟩ := hP
  have hx := Bd.exec
  have hby := Bd.bytes
  have hml : c.maxLocals = 1 := hml0
  have hown : s.vm.findClass "java/util/AbstractList" = some m.cls := findClass_of_methodNamed Bd.named
  have hnm := (name_of_methodNamed Bd.named Bd.method).1
  have X0 : Stand p l e ({ frames := 2, cells := 0, slots := 0, locals := 24 } : Room) s m #[(.ref a1)] below meth c s₁ [] 0 0 := Stand.of_body Bd
  have e0 : s₁.heap = h0 := by rw [← hH0, Bd.state]; rfl
  have N0 := Fr.nil n0
  refine own_cast (ef_abl m a1) ?_
  show own_Go p e below (fun o U' => ∃ v L, o = .returned v ∧ Qabl Z a1 h0 n0 v U'.heap L ∧ FrameEnd s o U' L ({ frames := 2, cells := 0, slots := 0, locals := 24 } : Room).cells ({ frames := 2, cells := 0, slots := 0, locals := 24 } : Room).slots) (s₁.setTop (mkF m 0 #[.val (.ref a1)] []))
  refine own_via (fun _ => XS.aloadN X0.here hx rfl (hb hby d11_0) rfl rfl) ?_
  show own_Go p e below _ (s₁.setTop (mkF m 1 #[.val (.ref a1)] [(.ref a1)]))
  obtain ⟨_, _, ⟨T_1, L_1, k_1, n_1⟩, -, X_1, ⟨Lc_1, hQ_1, l_1, y_1, z_1⟩, st_1⟩ := X0.specialBack hx (y := (⟨"java/util/AbstractCollection", "<init>", "()V"⟩ : MethodName)) rfl hown (mvT hZ (own_w hw 67 rfl)) (mvT hZ (own_w hw 68 rfl)) (mvT hZ (own_w hw 72 rfl)) (by decide) (backOf (W := 0) (rmabc l Z a0 hw [] a1 h0 n0 Z0 ) hZ (own_w hw 72 rfl) (own_w hw 71 rfl) (by decide) (by decide)) (g := (mkF m 1 #[.val (.ref a1)] [(.ref a1)])) rfl (by rw [hml]; rfl) (Steps.refl _) (a := a1) (argsL := []) (rest := []) (lenOf pd_0 rfl) rfl (by show 2 * 0 + _ ≤ _; exact Nat.le_of_eq rfl) (hb hby d11_1) (fun _ _ => ⟨rfl, e0, (by decide : 0 + 0 ≤ _), (by decide : 0 + 0 ≤ _)⟩)
  dsimp only [Pt.U, Pt.locs, Pt.cells, Pt.slots] at X_1 l_1 y_1 z_1 st_1 hQ_1
  subst l_1 y_1 z_1
  obtain ⟨rfl, Nq_1, K_1q⟩ := hQ_1
  have N_1 := Fr.app N0 Nq_1
  refine own_via (fun _ k => st_1.trans k) ?_
  show own_Go p e below _ (T_1.setTop (mkF m 4 #[.val (.ref a1)] []))
  refine own_via (fun _ => XS.aloadN X_1.here hx rfl (hb hby d11_4) rfl rfl) ?_
  show own_Go p e below _ (T_1.setTop (mkF m 5 #[.val (.ref a1)] [(.ref a1)]))
  refine own_via (fun _ => XS.iconst X_1.here hx rfl (hb hby d11_5)) ?_
  show own_Go p e below _ (T_1.setTop (mkF m 6 #[.val (.ref a1)] [(.int (0 : Int32)), (.ref a1)]))
  have K_2 : Keep h0 T_1.heap [] := Keep.trans (ws := []) (Keep.refl h0 []) K_1q all0
  obtain ⟨T_3, h_3, X_3, e_3, W_3, st_3⟩ := putF X_1 hx hZ hown (host := "") (Or.inl (own_w hw 74 rfl)) Via.refl rfl (Fm.keep K_2 nin0) (E1.keep K_2) (Or.inl (own_w hw 75 rfl)) (own_w hw 56 rfl) (ty := .int) (by decide) rfl rfl (g := (mkF m 6 #[.val (.ref a1)] [(.int (0 : Int32)), (.ref a1)])) rfl rfl (hb hby d11_6)
  have F_4 : Fld Z h_3 a1 "java/util/ArrayList" "size" "I" (.int (0 : Int32)) := (Fz.keep K_2 nin0).other W_3 (Or.inr (slot_ne (Or.inl (own_w hw 107 rfl)) (Or.inl (own_w hw 75 rfl)) (by decide) (t := .int) (t' := .int) (by decide) (by decide)))
  have F_5 : Fld Z h_3 a1 "java/util/ArrayList" "elementData" "[Ljava/lang/Object;" .null := (Fe.keep K_2 nin0).other W_3 (Or.inr (slot_ne (Or.inl (own_w hw 78 rfl)) (Or.inl (own_w hw 75 rfl)) (by decide) (t := (.array (.object "java/lang/Object"))) (t' := .int) (by decide) (by decide)))
  have F_6 : Fld Z h_3 a1 "java/util/AbstractList" "modCount" "I" (.int (0 : Int32)) := (Fm.keep K_2 nin0).same W_3
  have N_3 := Fr.snoc X_3 N_1 g1
  refine own_via st_3 ?_
  show own_Go p e below _ (T_3.setTop (mkF m 9 #[.val (.ref a1)] []))
  have K_7 : Keep h0 h_3 [a1] := Keep.wr (ws := [a1]) (own_keep_mono K_2 (by simp)) W_3 (Or.inl (List.mem_of_getElem? (i := 0) rfl))
  exact own_ret0 X_3 Bd.notSynchronized hx Bd.returns (hb hby d11_9) (by decide) (by decide) (by rw [e_3]; exact ⟨rfl, N_3, K_7, F_6, F_4, F_5⟩)
theorem d10_0 : decode jdk_38_method_2_code 0 = .ok (.aload_n 0, 1) := by decide +kernel
theorem d10_1 : decode jdk_38_method_2_code 1 = .ok (.invokespecial 1, 3) := by decide +kernel
theorem d10_4 : decode jdk_38_method_2_code 4 = .ok (.aload_n 0, 1) := by decide +kernel
theorem d10_5 : decode jdk_38_method_2_code 5 = .ok (.getstatic 39, 3) := by decide +kernel
theorem d10_8 : decode jdk_38_method_2_code 8 = .ok (.putfield 9, 3) := by decide +kernel
theorem d10_11 : decode jdk_38_method_2_code 11 = .ok (.return_, 1) := by decide +kernel
theorem pn_java_util_ArrayList : plainName "java/util/ArrayList" = true := by first | (simp [plainName, overriddenIn]; done) | decide +kernel
theorem ef_alInit (m : MethodId) (a1 : Addr) : entryFrame m #[(.ref a1)] 1 = mkF m 0 #[.val (.ref a1)] [] := by first | (simp [entryFrame, mkF, argsToLocals, Value.category]; done) | rfl
def QalInit (Z : State) (a1 : Addr) (dc : Addr) (kd : ClassId) (h0 : Heap) (n0 : Nat) (v : Option Value) (h : Heap) (L : List Loc) : Prop := v = none ∧ Fr n0 L ∧ Keep h0 h [a1] ∧ (Fld Z h a1 "java/util/AbstractList" "modCount" "I" (.int (0 : Int32))) ∧ (Fld Z h a1 "java/util/ArrayList" "size" "I" (.int (0 : Int32))) ∧ (Fld Z h a1 "java/util/ArrayList" "elementData" "[Ljava/lang/Object;" (.ref dc))
set_option maxRecDepth 65536 in
set_option maxHeartbeats 40000000 in
theorem rmalInit (l : Launch) (Z : State) (a0 : Array Value) (hw : ∀ d ∈ tables_1, d.before a0 Z = true) (ws : List Jvm.Cond) (a1 : Addr) (dc : Addr) (kd : ClassId) (h0 : Heap) (n0 : Nat) (Z0 : n0 ≤ h0.size) (O0 : Old Z n0 h0) (E1 : Exa Z h0 a1 "java/util/ArrayList") (Fm : Fld Z h0 a1 "java/util/AbstractList" "modCount" "I" (.int (0 : Int32))) (Fz : Fld Z h0 a1 "java/util/ArrayList" "size" "I" (.int (0 : Int32))) (Fe : Fld Z h0 a1 "java/util/ArrayList" "elementData" "[Ljava/lang/Object;" .null) (g1 : n0 ≤ a1) (Sdc : Sta Z Z.heap "java/util/ArrayList" "DEFAULTCAPACITY_EMPTY_ELEMENTDATA" "[Ljava/lang/Object;" (.ref dc)) (Adc : Arv Z Z.heap dc kd (.object "java/lang/Object") (0 : Int32) [] .null) :
    MetFree l (⟨"java/util/ArrayList", "<init>", "()V"⟩ : MethodName) (head1 (Jvm.Cond.code (⟨"java/util/ArrayList", "<init>", "()V"⟩ : MethodName) jdk_38_method_2_code 1 none :: ws) ({ frames := 3, cells := 0, slots := 0, locals := 36 } : Room)) (fun a U => a = #[(.ref a1)] ∧ Z.Warmed39 U.vm ∧ U.heap = h0) (fun _ _ _ _ _ => True) (fun _ U o U' => ∃ v L, o = .returned v ∧ QalInit Z a1 dc kd h0 n0 v U'.heap L ∧ FrameEnd U o U' L ({ frames := 3, cells := 0, slots := 0, locals := 36 } : Room).cells ({ frames := 3, cells := 0, slots := 0, locals := 36 } : Room).slots) := by
  refine MetFree.of_bodySF (plainFor_of_name pn_java_util_ArrayList) hisR ?_
  intro p e s m args below meth c s₁ Bd hml0 hP hK
  obtain ⟨rfl, hZ, hH0⟩ := hP
  have hx := Bd.exec
  have hby := Bd.bytes
  have hml : c.maxLocals = 1 := hml0
  have hown : s.vm.findClass "java/util/ArrayList" = some m.cls := findClass_of_methodNamed Bd.named
  have hnm := (name_of_methodNamed Bd.named Bd.method).1
  have X0 : Stand p l e ({ frames := 3, cells := 0, slots := 0, locals := 36 } : Room) s m #[(.ref a1)] below meth c s₁ [] 0 0 := Stand.of_body Bd
  have e0 : s₁.heap = h0 := by rw [← hH0, Bd.state]; rfl
  have N0 := Fr.nil n0
  refine own_cast (ef_alInit m a1) ?_
  show own_Go p e below (fun o U' => ∃ v L, o = .returned v ∧ QalInit Z a1 dc kd h0 n0 v U'.heap L ∧ FrameEnd s o U' L ({ frames := 3, cells := 0, slots := 0, locals := 36 } : Room).cells ({ frames := 3, cells := 0, slots := 0, locals := 36 } : Room).slots) (s₁.setTop (mkF m 0 #[.val (.ref a1)] []))
  refine own_via (fun _ => XS.aloadN X0.here hx rfl (hb hby d10_0) rfl rfl) ?_
  show own_Go p e below _ (s₁.setTop (mkF m 1 #[.val (.ref a1)] [(.ref a1)]))
  obtain ⟨_, _, ⟨T_1, L_1, k_1, n_1⟩, -, X_1, ⟨Lc_1, hQ_1, l_1, y_1, z_1⟩, st_1⟩ := X0.specialBack hx (y := (⟨"java/util/AbstractList", "<init>", "()V"⟩ : MethodName)) rfl hown (mvT hZ (own_w hw 61 rfl)) (mvT hZ (own_w hw 62 rfl)) (mvT hZ (own_w hw 66 rfl)) (by decide) (backOf (W := 0) (rmabl l Z a0 hw [] a1 h0 n0 Z0 E1 Fm Fz Fe g1) hZ (own_w hw 66 rfl) (own_w hw 65 rfl) (by decide) (by decide)) (g := (mkF m 1 #[.val (.ref a1)] [(.ref a1)])) rfl (by rw [hml]; rfl) (Steps.refl _) (a := a1) (argsL := []) (rest := []) (lenOf pd_0 rfl) rfl (by show 2 * 0 + _ ≤ _; exact Nat.le_of_eq rfl) (hb hby d10_1) (fun _ _ => ⟨rfl, e0, (by decide : 0 + 0 ≤ _), (by decide : 0 + 0 ≤ _)⟩)
  dsimp only [Pt.U, Pt.locs, Pt.cells, Pt.slots] at X_1 l_1 y_1 z_1 st_1 hQ_1
  subst l_1 y_1 z_1
  obtain ⟨rfl, Nq_1, K_1q, q_1_0, q_1_1, q_1_2⟩ := hQ_1
  have N_1 := Fr.app N0 Nq_1
  refine own_via (fun _ k => st_1.trans k) ?_
  show own_Go p e below _ (T_1.setTop (mkF m 4 #[.val (.ref a1)] []))
  refine own_via (fun _ => XS.aloadN X_1.here hx rfl (hb hby d10_4) rfl rfl) ?_
  show own_Go p e below _ (T_1.setTop (mkF m 5 #[.val (.ref a1)] [(.ref a1)]))
  have K_2 : Keep h0 T_1.heap [a1] := Keep.trans (ws := [a1]) (own_keep_mono (Keep.refl h0 []) (by simp)) K_1q (allS (Or.inl (List.mem_of_getElem? (i := 0) rfl)) all0)
  obtain ⟨T_3, X_3, e_3, st_3⟩ := getS2 X_1 hx hZ hown (host := "") (Or.inl (own_w hw 76 rfl)) Via.refl rfl (Sdc.ext (O0.keep K_2 (allS g1 all0)).2) (g := (mkF m 5 #[.val (.ref a1)] [(.ref a1)])) rfl (hb hby d10_5)
  refine own_via st_3 ?_
  show own_Go p e below _ (T_3.setTop (mkF m 8 #[.val (.ref a1)] [(.ref dc), (.ref a1)]))
  obtain ⟨T_4, h_4, X_4, e_4, W_4, st_4⟩ := putF X_3 hx hZ hown (host := "") (Or.inl (own_w hw 77 rfl)) Via.refl e_3 q_1_2 (E1.keep K_2) (Or.inl (own_w hw 78 rfl)) (own_w hw 56 rfl) (ty := (.array (.object "java/lang/Object"))) (by decide) rfl rfl (g := (mkF m 8 #[.val (.ref a1)] [(.ref dc), (.ref a1)])) rfl rfl (hb hby d10_8)
  have F_5 : Fld Z h_4 a1 "java/util/AbstractList" "modCount" "I" (.int (0 : Int32)) := q_1_0.other W_4 (Or.inr (slot_ne (Or.inl (own_w hw 75 rfl)) (Or.inl (own_w hw 78 rfl)) (by decide) (t := .int) (t' := (.array (.object "java/lang/Object"))) (by decide) (by decide)))
  have F_6 : Fld Z h_4 a1 "java/util/ArrayList" "size" "I" (.int (0 : Int32)) := q_1_1.other W_4 (Or.inr (slot_ne (Or.inl (own_w hw 107 rfl)) (Or.inl (own_w hw 78 rfl)) (by decide) (t := .int) (t' := (.array (.object "java/lang/Object"))) (by decide) (by decide)))
  have F_7 : Fld Z h_4 a1 "java/util/ArrayList" "elementData" "[Ljava/lang/Object;" (.ref dc) := q_1_2.same W_4
  have N_4 := Fr.snoc X_4 N_1 g1
  refine own_via st_4 ?_
  show own_Go p e below _ (T_4.setTop (mkF m 11 #[.val (.ref a1)] []))
  have K_8 : Keep h0 h_4 [a1] := Keep.wr (ws := [a1]) K_2 W_4 (Or.inl (List.mem_of_getElem? (i := 0) rfl))
  exact own_ret0 X_4 Bd.notSynchronized hx Bd.returns (hb hby d10_11) (by decide) (by decide) (by rw [e_4]; exact ⟨rfl, N_4, K_8, F_5, F_6, F_7⟩)
theorem d19_0 : decode jdk_29_method_65_code 0 = .ok (.iload_n 0, 1) := by decide +kernel
theorem d19_1 : decode jdk_29_method_65_code 1 = .ok (.iload_n 1, 1) := by decide +kernel
theorem d19_2 : decode jdk_29_method_65_code 2 = .ok (.if_icmp .lt 7, 3) := by decide +kernel
theorem d19_5 : decode jdk_29_method_65_code 5 = .ok (.iload_n 0, 1) := by decide +kernel
theorem d19_6 : decode jdk_29_method_65_code 6 = .ok (.goto 4, 3) := by decide +kernel
theorem d19_9 : decode jdk_29_method_65_code 9 = .ok (.iload_n 1, 1) := by decide +kernel
theorem d19_10 : decode jdk_29_method_65_code 10 = .ok (.ireturn, 1) := by decide +kernel
theorem ef_max (m : MethodId) (p1 : Int32) (p2 : Int32) : entryFrame m #[(.int p1), (.int p2)] 2 = mkF m 0 #[.val (.int p1), .val (.int p2)] [] := by first | (simp [entryFrame, mkF, argsToLocals, Value.category]; done) | rfl
def Qmax (Z : State) (p1 : Int32) (p2 : Int32) (h0 : Heap) (n0 : Nat) (v : Option Value) (h : Heap) (L : List Loc) : Prop := v = some (.int p1) ∧ Fr n0 L ∧ h = h0
set_option maxRecDepth 65536 in
set_option maxHeartbeats 40000000 in
theorem rmmax (l : Launch) (Z : State) (a0 : Array Value) (hw : ∀ d ∈ tables_1, d.before a0 Z = true) (ws : List Jvm.Cond) (p1 : Int32) (p2 : Int32) (h0 : Heap) (n0 : Nat) (Z0 : n0 ≤ h0.size) (h1 : ¬ (p1 < p2)) :
    MetFree l (⟨"java/lang/Math", "max", "(II)I"⟩ : MethodName) (head1 (Jvm.Cond.code (⟨"java/lang/Math", "max", "(II)I"⟩ : MethodName) jdk_29_method_65_code 2 (some .int) :: ws) ({ frames := 0, cells := 0, slots := 0, locals := 0 } : Room)) (fun a U => a = #[(.int p1), (.int p2)] ∧ Z.Warmed39 U.vm ∧ U.heap = h0) (fun _ _ _ _ _ => True) (fun _ U o U' => ∃ v L, o = .returned v ∧ Qmax Z p1 p2 h0 n0 v U'.heap L ∧ FrameEnd U o U' L ({ frames := 0, cells := 0, slots := 0, locals := 0 } : Room).cells ({ frames := 0, cells := 0, slots := 0, locals := 0 } : Room).slots) := by
  refine MetFree.of_bodySF (Jvm.Free.JP.mathPlain rfl (by decide +kernel)) hisR ?_
  intro p e s m args below meth c s₁ Bd hml0 hP hK
  obtain ⟨rfl, hZ, hH0⟩ := hP
  have hx := Bd.exec
  have hby := Bd.bytes
  have hml : c.maxLocals = 2 := hml0
  have hown : s.vm.findClass "java/lang/Math" = some m.cls := findClass_of_methodNamed Bd.named
  have hnm := (name_of_methodNamed Bd.named Bd.method).1
  have X0 : Stand p l e ({ frames := 0, cells := 0, slots := 0, locals := 0 } : Room) s m #[(.int p1), (.int p2)] below meth c s₁ [] 0 0 := Stand.of_body Bd
  have e0 : s₁.heap = h0 := by rw [← hH0, Bd.state]; rfl
  have N0 := Fr.nil n0
  refine own_cast (ef_max m p1 p2) ?_
  show own_Go p e below (fun o U' => ∃ v L, o = .returned v ∧ Qmax Z p1 p2 h0 n0 v U'.heap L ∧ FrameEnd s o U' L ({ frames := 0, cells := 0, slots := 0, locals := 0 } : Room).cells ({ frames := 0, cells := 0, slots := 0, locals := 0 } : Room).slots) (s₁.setTop (mkF m 0 #[.val (.int p1), .val (.int p2)] []))
  refine own_via (fun _ => XS.iloadN X0.here hx rfl (hb hby d19_0) rfl) ?_
  show own_Go p e below _ (s₁.setTop (mkF m 1 #[.val (.int p1), .val (.int p2)] [(.int p1)]))
  refine own_via (fun _ => XS.iloadN X0.here hx rfl (hb hby d19_1) rfl) ?_
  show own_Go p e below _ (s₁.setTop (mkF m 2 #[.val (.int p1), .val (.int p2)] [(.int p2), (.int p1)]))
  refine own_via (fun _ => XS.icmpNo X0.here hx rfl (hb hby d19_2) rfl (flt (h1 : ¬ (p1 < p2))).1) ?_
  show own_Go p e below _ (s₁.setTop (mkF m 5 #[.val (.int p1), .val (.int p2)] []))
  refine own_via (fun _ => XS.iloadN X0.here hx rfl (hb hby d19_5) rfl) ?_
  show own_Go p e below _ (s₁.setTop (mkF m 6 #[.val (.int p1), .val (.int p2)] [(.int p1)]))
  refine own_via (fun _ => XS.goto X0.here hx rfl (pc0 := 6) (pc' := 10) rfl (hb hby d19_6) (by decide) (by decide)) ?_
  show own_Go p e below _ (s₁.setTop (mkF m 10 #[.val (.int p1), .val (.int p2)] [(.int p1)]))
  exact own_retv X0 Bd.notSynchronized hx Bd.returns rfl (Or.inl ⟨rfl, (by simp), _, rfl⟩) (hb hby d19_10) (by decide) (by decide) (by rw [e0]; exact ⟨rfl, N0, rfl⟩)
theorem d18_0 : decode jdk_38_method_6_code 0 = .ok (.aload_n 0, 1) := by decide +kernel
theorem d18_1 : decode jdk_38_method_6_code 1 = .ok (.getfield 9, 3) := by decide +kernel
theorem d18_4 : decode jdk_38_method_6_code 4 = .ok (.arraylength, 1) := by decide +kernel
theorem d18_5 : decode jdk_38_method_6_code 5 = .ok (.istore_n 2, 1) := by decide +kernel
theorem d18_6 : decode jdk_38_method_6_code 6 = .ok (.iload_n 2, 1) := by decide +kernel
theorem d18_7 : decode jdk_38_method_6_code 7 = .ok (.ifCond .gt 13, 3) := by decide +kernel
theorem d18_10 : decode jdk_38_method_6_code 10 = .ok (.aload_n 0, 1) := by decide +kernel
theorem d18_11 : decode jdk_38_method_6_code 11 = .ok (.getfield 9, 3) := by decide +kernel
theorem d18_14 : decode jdk_38_method_6_code 14 = .ok (.getstatic 39, 3) := by decide +kernel
theorem d18_17 : decode jdk_38_method_6_code 17 = .ok (.if_acmp .eq 28, 3) := by decide +kernel
theorem d18_20 : decode jdk_38_method_6_code 20 = .ok (.iload_n 2, 1) := by decide +kernel
theorem d18_21 : decode jdk_38_method_6_code 21 = .ok (.iload_n 1, 1) := by decide +kernel
theorem d18_22 : decode jdk_38_method_6_code 22 = .ok (.iload_n 2, 1) := by decide +kernel
theorem d18_23 : decode jdk_38_method_6_code 23 = .ok (.isub, 1) := by decide +kernel
theorem d18_24 : decode jdk_38_method_6_code 24 = .ok (.iload_n 2, 1) := by decide +kernel
theorem d18_25 : decode jdk_38_method_6_code 25 = .ok (.iconst 1, 1) := by decide +kernel
theorem d18_26 : decode jdk_38_method_6_code 26 = .ok (.ishr, 1) := by decide +kernel
theorem d18_27 : decode jdk_38_method_6_code 27 = .ok (.invokestatic 73, 3) := by decide +kernel
theorem d18_30 : decode jdk_38_method_6_code 30 = .ok (.istore_n 3, 1) := by decide +kernel
theorem d18_31 : decode jdk_38_method_6_code 31 = .ok (.aload_n 0, 1) := by decide +kernel
theorem d18_32 : decode jdk_38_method_6_code 32 = .ok (.aload_n 0, 1) := by decide +kernel
theorem d18_33 : decode jdk_38_method_6_code 33 = .ok (.getfield 9, 3) := by decide +kernel
theorem d18_36 : decode jdk_38_method_6_code 36 = .ok (.iload_n 3, 1) := by decide +kernel
theorem d18_37 : decode jdk_38_method_6_code 37 = .ok (.invokestatic 66, 3) := by decide +kernel
theorem d18_40 : decode jdk_38_method_6_code 40 = .ok (.dup_x1, 1) := by decide +kernel
theorem d18_41 : decode jdk_38_method_6_code 41 = .ok (.putfield 9, 3) := by decide +kernel
theorem d18_44 : decode jdk_38_method_6_code 44 = .ok (.areturn, 1) := by decide +kernel
theorem d18_45 : decode jdk_38_method_6_code 45 = .ok (.aload_n 0, 1) := by decide +kernel
theorem d18_46 : decode jdk_38_method_6_code 46 = .ok (.bipush 10, 2) := by decide +kernel
theorem d18_48 : decode jdk_38_method_6_code 48 = .ok (.iload_n 1, 1) := by decide +kernel
theorem d18_49 : decode jdk_38_method_6_code 49 = .ok (.invokestatic 79, 3) := by decide +kernel
theorem d18_52 : decode jdk_38_method_6_code 52 = .ok (.anewarray 7, 3) := by decide +kernel
theorem d18_55 : decode jdk_38_method_6_code 55 = .ok (.dup_x1, 1) := by decide +kernel
theorem d18_56 : decode jdk_38_method_6_code 56 = .ok (.putfield 9, 3) := by decide +kernel
theorem d18_59 : decode jdk_38_method_6_code 59 = .ok (.areturn, 1) := by decide +kernel
theorem pd_2 : parseMethodDescriptor "(II)I" = some ⟨[.int, .int], some .int⟩ := by decide +kernel
theorem ef_growI (m : MethodId) (a1 : Addr) : entryFrame m #[(.ref a1), (.int (1 : Int32))] 4 = mkF m 0 #[.val (.ref a1), .val (.int (1 : Int32)), .unset, .unset] [] := by first | (simp [entryFrame, mkF, argsToLocals, Value.category]; done) | rfl
def QgrowI (Z : State) (a1 : Addr) (mv_ : Value) (dc : Addr) (kd : ClassId) (h0 : Heap) (n0 : Nat) (v : Option Value) (h : Heap) (L : List Loc) : Prop := ∃ r : Addr, ∃ k : ClassId, v = some (.ref r) ∧ Fr n0 L ∧ Keep h0 h [a1] ∧ (h0.size ≤ r) ∧ (Ovr Z k "java/lang/Object") ∧ (Arv Z h r k (.object "java/lang/Object") (10 : Int32) [.null, .null, .null, .null, .null, .null, .null, .null, .null, .null] .null) ∧ (Fld Z h a1 "java/util/AbstractList" "modCount" "I" mv_) ∧ (Fld Z h a1 "java/util/ArrayList" "size" "I" (.int (0 : Int32))) ∧ (Fld Z h a1 "java/util/ArrayList" "elementData" "[Ljava/lang/Object;" (.ref r))
set_option maxRecDepth 65536 in
set_option maxHeartbeats 40000000 in
theorem rmgrowI (l : Launch) (Z : State) (a0 : Array Value) (hw : ∀ d ∈ tables_1, d.before a0 Z = true) (ws : List Jvm.Cond) (a1 : Addr) (mv_ : Value) (dc : Addr) (kd : ClassId) (h0 : Heap) (n0 : Nat) (Z0 : n0 ≤ h0.size) (O0 : Old Z n0 h0) (E1 : Exa Z h0 a1 "java/util/ArrayList") (Fm : Fld Z h0 a1 "java/util/AbstractList" "modCount" "I" mv_) (Fz : Fld Z h0 a1 "java/util/ArrayList" "size" "I" (.int (0 : Int32))) (Fe : Fld Z h0 a1 "java/util/ArrayList" "elementData" "[Ljava/lang/Object;" (.ref dc)) (g1 : n0 ≤ a1) (Sdc : Sta Z Z.heap "java/util/ArrayList" "DEFAULTCAPACITY_EMPTY_ELEMENTDATA" "[Ljava/lang/Object;" (.ref dc)) (Adc : Arv Z Z.heap dc kd (.object "java/lang/Object") (0 : Int32) [] .null) :
    MetFree l (⟨"java/util/ArrayList", "grow", "(I)[Ljava/lang/Object;"⟩ : MethodName) (head1 (Jvm.Cond.code (⟨"java/util/ArrayList", "grow", "(I)[Ljava/lang/Object;"⟩ : MethodName) jdk_38_method_6_code 4 (some (.array (.object "java/lang/Object"))) :: ws) ({ frames := 1, cells := 1, slots := 10, locals := 14 } : Room)) (fun a U => a = #[(.ref a1), (.int (1 : Int32))] ∧ Z.Warmed39 U.vm ∧ U.heap = h0) (fun _ _ _ _ _ => True) (fun _ U o U' => ∃ v L, o = .returned v ∧ QgrowI Z a1 mv_ dc kd h0 n0 v U'.heap L ∧ FrameEnd U o U' L ({ frames := 1, cells := 1, slots := 10, locals := 14 } : Room).cells ({ frames := 1, cells := 1, slots := 10, locals := 14 } : Room).slots) := by
  refine MetFree.of_bodySF (plainFor_of_name pn_java_util_ArrayList) hisR ?_
  intro p e s m args below meth c s₁ Bd hml0 hP hK
  obtain ⟨rfl, hZ, hH0⟩ := hP
  have hx := Bd.exec
  have hby := Bd.bytes
  have hml : c.maxLocals = 4 := hml0
  have hown : s.vm.findClass "java/util/ArrayList" = some m.cls := findClass_of_methodNamed Bd.named
  have hnm := (name_of_methodNamed Bd.named Bd.method).1
  have X0 : Stand p l e ({ frames := 1, cells := 1, slots := 10, locals := 14 } : Room) s m #[(.ref a1), (.int (1 : Int32))] below meth c s₁ [] 0 0 := Stand.of_body Bd
  have e0 : s₁.heap = h0 := by rw [← hH0, Bd.state]; rfl
  have N0 := Fr.nil n0
  refine own_cast (ef_growI m a1) ?_
  show own_Go p e below (fun o U' => ∃ v L, o = .returned v ∧ QgrowI Z a1 mv_ dc kd h0 n0 v U'.heap L ∧ FrameEnd s o U' L ({ frames := 1, cells := 1, slots := 10, locals := 14 } : Room).cells ({ frames := 1, cells := 1, slots := 10, locals := 14 } : Room).slots) (s₁.setTop (mkF m 0 #[.val (.ref a1), .val (.int (1 : Int32)), .unset, .unset] []))
  refine own_via (fun _ => XS.aloadN X0.here hx rfl (hb hby d18_0) rfl rfl) ?_
  show own_Go p e below _ (s₁.setTop (mkF m 1 #[.val (.ref a1), .val (.int (1 : Int32)), .unset, .unset] [(.ref a1)]))
  obtain ⟨T_1, X_1, e_1, st_1⟩ := getF X0 hx hZ hown (host := "") (Or.inl (own_w hw 77 rfl)) Via.refl e0 Fe (g := (mkF m 1 #[.val (.ref a1), .val (.int (1 : Int32)), .unset, .unset] [(.ref a1)])) rfl rfl (hb hby d18_1)
  refine own_via st_1 ?_
  show own_Go p e below _ (T_1.setTop (mkF m 4 #[.val (.ref a1), .val (.int (1 : Int32)), .unset, .unset] [(.ref dc)]))
  obtain ⟨cl_2, Ar_2, q_2, S_2, M_2, H_2, G_2⟩ := (id (Adc.ext O0.2))
  refine own_via (X_1.arraylength hx (by rw [e_1]; exact Ar_2.1) (State.isArrayOf_alike hZ.alike Ar_2.2.1) (g := (mkF m 4 #[.val (.ref a1), .val (.int (1 : Int32)), .unset, .unset] [(.ref dc)])) rfl rfl (hb hby d18_4)) ?_
  rw [len_of S_2 M_2]
  show own_Go p e below _ (T_1.setTop (mkF m 5 #[.val (.ref a1), .val (.int (1 : Int32)), .unset, .unset] [(.int (0 : Int32))]))
  refine own_via (fun _ => XS.istoreN X_1.here hx rfl (hb hby d18_5) rfl (l' := #[.val (.ref a1), .val (.int (1 : Int32)), .val (.int (0 : Int32)), .unset]) rfl) ?_
  show own_Go p e below _ (T_1.setTop (mkF m 6 #[.val (.ref a1), .val (.int (1 : Int32)), .val (.int (0 : Int32)), .unset] []))
  refine own_via (fun _ => XS.iloadN X_1.here hx rfl (hb hby d18_6) rfl) ?_
  show own_Go p e below _ (T_1.setTop (mkF m 7 #[.val (.ref a1), .val (.int (1 : Int32)), .val (.int (0 : Int32)), .unset] [(.int (0 : Int32))]))
  refine own_via (fun _ => XS.ifNo X_1.here hx rfl (hb hby d18_7) rfl ((if0 _ _).trans (flt ((by decide) : ¬ ((0 : Int32) < (0 : Int32)))).2.2.1)) ?_
  show own_Go p e below _ (T_1.setTop (mkF m 10 #[.val (.ref a1), .val (.int (1 : Int32)), .val (.int (0 : Int32)), .unset] []))
  refine own_via (fun _ => XS.aloadN X_1.here hx rfl (hb hby d18_10) rfl rfl) ?_
  show own_Go p e below _ (T_1.setTop (mkF m 11 #[.val (.ref a1), .val (.int (1 : Int32)), .val (.int (0 : Int32)), .unset] [(.ref a1)]))
  obtain ⟨T_3, X_3, e_3, st_3⟩ := getF X_1 hx hZ hown (host := "") (Or.inl (own_w hw 77 rfl)) Via.refl e_1 Fe (g := (mkF m 11 #[.val (.ref a1), .val (.int (1 : Int32)), .val (.int (0 : Int32)), .unset] [(.ref a1)])) rfl rfl (hb hby d18_11)
  refine own_via st_3 ?_
  show own_Go p e below _ (T_3.setTop (mkF m 14 #[.val (.ref a1), .val (.int (1 : Int32)), .val (.int (0 : Int32)), .unset] [(.ref dc)]))
  obtain ⟨T_4, X_4, e_4, st_4⟩ := getS2 X_3 hx hZ hown (host := "") (Or.inl (own_w hw 76 rfl)) Via.refl e_3 (Sdc.ext O0.2) (g := (mkF m 14 #[.val (.ref a1), .val (.int (1 : Int32)), .val (.int (0 : Int32)), .unset] [(.ref dc)])) rfl (hb hby d18_14)
  refine own_via st_4 ?_
  show own_Go p e below _ (T_4.setTop (mkF m 17 #[.val (.ref a1), .val (.int (1 : Int32)), .val (.int (0 : Int32)), .unset] [(.ref dc), (.ref dc)]))
  refine own_via (fun _ => Jvm.RoadKit.acmp (g := (mkF m 17 #[.val (.ref a1), .val (.int (1 : Int32)), .val (.int (0 : Int32)), .unset] [(.ref dc), (.ref dc)])) X_4 hx rfl rfl rfl (pc0 := 17) (pc' := 45) (same := true) rfl (hb hby d18_17) rfl (decide_eq_true rfl) (by decide) (by decide)) ?_
  show own_Go p e below _ (T_4.setTop (mkF m 45 #[.val (.ref a1), .val (.int (1 : Int32)), .val (.int (0 : Int32)), .unset] []))
  refine own_via (fun _ => XS.aloadN X_4.here hx rfl (hb hby d18_45) rfl rfl) ?_
  show own_Go p e below _ (T_4.setTop (mkF m 46 #[.val (.ref a1), .val (.int (1 : Int32)), .val (.int (0 : Int32)), .unset] [(.ref a1)]))
  refine own_via (fun _ => XS.bipush X_4.here hx rfl (hb hby d18_46)) ?_
  show own_Go p e below _ (T_4.setTop (mkF m 48 #[.val (.ref a1), .val (.int (1 : Int32)), .val (.int (0 : Int32)), .unset] [(.int (10 : Int32)), (.ref a1)]))
  refine own_via (fun _ => XS.iloadN X_4.here hx rfl (hb hby d18_48) rfl) ?_
  show own_Go p e below _ (T_4.setTop (mkF m 49 #[.val (.ref a1), .val (.int (1 : Int32)), .val (.int (0 : Int32)), .unset] [(.int (1 : Int32)), (.int (10 : Int32)), (.ref a1)]))
  obtain ⟨_, _, ⟨T_5, L_5, k_5, n_5⟩, -, X_5, ⟨Lc_5, hQ_5, l_5, y_5, z_5⟩, st_5⟩ := Jvm.LawKit.callS X_4 hx (y := (⟨"java/lang/Math", "max", "(II)I"⟩ : MethodName)) hown (mvT hZ (own_w hw 123 rfl)) (mvT hZ (own_w hw 124 rfl)) (mvT hZ (own_w hw 125 rfl)) (mvT hZ (own_w hw 126 rfl)) (by decide) (backOf (W := 1) (rmmax l Z a0 hw [] (10 : Int32) (1 : Int32) h0 n0 Z0 (by decide)) hZ (own_w hw 126 rfl) (own_w hw 125 rfl) (by decide) (by decide)) (g := (mkF m 49 #[.val (.ref a1), .val (.int (1 : Int32)), .val (.int (0 : Int32)), .unset] [(.int (1 : Int32)), (.int (10 : Int32)), (.ref a1)])) rfl (by rw [hml]; rfl) (argsL := [(.int (10 : Int32)), (.int (1 : Int32))]) (rest := [(.ref a1)]) (lenOf pd_2 rfl) rfl (by show 2 * 0 + _ ≤ _; exact Nat.le_of_eq rfl) (hb hby d18_49) (fun _ _ => ⟨rfl, e_4, (by decide : 0 + 0 ≤ _), (by decide : 0 + 0 ≤ _)⟩)
  dsimp only [Pt.U, Pt.locs, Pt.cells, Pt.slots] at X_5 l_5 y_5 z_5 st_5 hQ_5
  subst l_5 y_5 z_5
  obtain ⟨rfl, Nq_5, e_5⟩ := hQ_5
  have N_5 := Fr.app N0 Nq_5
  refine own_via st_5 ?_
  show own_Go p e below _ (T_5.setTop (mkF m 52 #[.val (.ref a1), .val (.int (1 : Int32)), .val (.int (0 : Int32)), .unset] [(.int (10 : Int32)), (.ref a1)]))
  obtain ⟨T_6, h_6, k_6, X_6, e_6, E_6, A_6, O_6, st_6⟩ := newR X_5 hx hZ hown (own_w hw 127 rfl) (own_w hw 128 rfl) e_5 (g := (mkF m 52 #[.val (.ref a1), .val (.int (1 : Int32)), .val (.int (0 : Int32)), .unset] [(.int (10 : Int32)), (.ref a1)])) rfl (hb hby d18_52) rfl (by decide) (cap := 10) (by decide) (by decide) (by decide) (by decide)
  obtain ⟨b_6, g_6⟩ : ∃ z, z = h0.size := ⟨_, rfl⟩
  rw [← g_6] at A_6 st_6
  have V_6 : Arv Z h_6 b_6 k_6 (.object "java/lang/Object") (10 : Int32) [.null, .null, .null, .null, .null, .null, .null, .null, .null, .null] .null := (Arv.new A_6 (by decide)).pad (pad_rep [] .null 10)
  refine own_via st_6 ?_
  show own_Go p e below _ (T_6.setTop (mkF m 55 #[.val (.ref a1), .val (.int (1 : Int32)), .val (.int (0 : Int32)), .unset] [(.ref b_6), (.ref a1)]))
  refine own_via (fun _ => XS.dupX1 X_6.here hx rfl (hb hby d18_55) rfl rfl rfl) ?_
  show own_Go p e below _ (T_6.setTop (mkF m 56 #[.val (.ref a1), .val (.int (1 : Int32)), .val (.int (0 : Int32)), .unset] [(.ref b_6), (.ref a1), (.ref b_6)]))
  have K_7 : Keep h0 h_6 [] := (Keep.refl h0 []).ext E_6
  obtain ⟨T_8, h_8, X_8, e_8, W_8, st_8⟩ := putF X_6 hx hZ hown (host := "") (Or.inl (own_w hw 77 rfl)) Via.refl e_6 (Fe.keep K_7 nin0) (E1.keep K_7) (Or.inl (own_w hw 78 rfl)) (own_w hw 56 rfl) (ty := (.array (.object "java/lang/Object"))) (by decide) rfl rfl (g := (mkF m 56 #[.val (.ref a1), .val (.int (1 : Int32)), .val (.int (0 : Int32)), .unset] [(.ref b_6), (.ref a1), (.ref b_6)])) rfl rfl (hb hby d18_56)
  have F_9 : Fld Z h_8 a1 "java/util/AbstractList" "modCount" "I" mv_ := (Fm.keep K_7 nin0).other W_8 (Or.inr (slot_ne (Or.inl (own_w hw 75 rfl)) (Or.inl (own_w hw 78 rfl)) (by decide) (t := .int) (t' := (.array (.object "java/lang/Object"))) (by decide) (by decide)))
  have F_10 : Fld Z h_8 a1 "java/util/ArrayList" "size" "I" (.int (0 : Int32)) := (Fz.keep K_7 nin0).other W_8 (Or.inr (slot_ne (Or.inl (own_w hw 107 rfl)) (Or.inl (own_w hw 78 rfl)) (by decide) (t := .int) (t' := (.array (.object "java/lang/Object"))) (by decide) (by decide)))
  have F_11 : Fld Z h_8 a1 "java/util/ArrayList" "elementData" "[Ljava/lang/Object;" (.ref b_6) := (Fe.keep K_7 nin0).same W_8
  have N_8 := Fr.snoc X_8 N_5 g1
  refine own_via st_8 ?_
  show own_Go p e below _ (T_8.setTop (mkF m 59 #[.val (.ref a1), .val (.int (1 : Int32)), .val (.int (0 : Int32)), .unset] [(.ref b_6)]))
  have K_12 : Keep h_6 h_8 [a1] := Keep.wr (ws := [a1]) (own_keep_mono (Keep.refl h_6 []) (by simp)) W_8 (Or.inl (List.mem_of_getElem? (i := 0) rfl))
  have K_13 : Keep h0 h_8 [a1] := Keep.wr (ws := [a1]) (own_keep_mono K_7 (by simp)) W_8 (Or.inl (List.mem_of_getElem? (i := 0) rfl))
  exact own_retv X_8 Bd.notSynchronized hx Bd.returns rfl (Or.inr (Or.inr (Or.inr (Or.inr ⟨rfl, rfl, rfl⟩)))) (hb hby d18_59) (by decide) (by decide) (by rw [e_8]; exact ⟨b_6, k_6, rfl, N_8, K_13, (Nat.le_of_eq g_6.symm), O_6, (V_6.keep K_12 (ninS (Ne.symm (Nat.ne_of_lt (Nat.lt_of_lt_of_le E1.lt (Nat.le_of_eq g_6.symm)))) nin0)), F_9, F_10, F_11⟩)
theorem d17_0 : decode jdk_38_method_7_code 0 = .ok (.aload_n 0, 1) := by decide +kernel
theorem d17_1 : decode jdk_38_method_7_code 1 = .ok (.aload_n 0, 1) := by decide +kernel
theorem d17_2 : decode jdk_38_method_7_code 2 = .ok (.getfield 48, 3) := by decide +kernel
theorem d17_5 : decode jdk_38_method_7_code 5 = .ok (.iconst 1, 1) := by decide +kernel
theorem d17_6 : decode jdk_38_method_7_code 6 = .ok (.iadd, 1) := by decide +kernel
theorem d17_7 : decode jdk_38_method_7_code 7 = .ok (.invokevirtual 69, 3) := by decide +kernel
theorem d17_10 : decode jdk_38_method_7_code 10 = .ok (.areturn, 1) := by decide +kernel
theorem pd_3 : parseMethodDescriptor "(I)[Ljava/lang/Object;" = some ⟨[.int], some (.array (.object "java/lang/Object"))⟩ := by decide +kernel
theorem ef_grow0 (m : MethodId) (a1 : Addr) : entryFrame m #[(.ref a1)] 1 = mkF m 0 #[.val (.ref a1)] [] := by first | (simp [entryFrame, mkF, argsToLocals, Value.category]; done) | rfl
def Qgrow0 (Z : State) (a1 : Addr) (mv_ : Value) (dc : Addr) (kd : ClassId) (h0 : Heap) (n0 : Nat) (v : Option Value) (h : Heap) (L : List Loc) : Prop := ∃ r : Addr, ∃ k : ClassId, v = some (.ref r) ∧ Fr n0 L ∧ Keep h0 h [a1] ∧ (h0.size ≤ r) ∧ (Ovr Z k "java/lang/Object") ∧ (Arv Z h r k (.object "java/lang/Object") (10 : Int32) [.null, .null, .null, .null, .null, .null, .null, .null, .null, .null] .null) ∧ (Fld Z h a1 "java/util/AbstractList" "modCount" "I" mv_) ∧ (Fld Z h a1 "java/util/ArrayList" "size" "I" (.int (0 : Int32))) ∧ (Fld Z h a1 "java/util/ArrayList" "elementData" "[Ljava/lang/Object;" (.ref r))
set_option maxRecDepth 65536 in
set_option maxHeartbeats 40000000 in
theorem rmgrow0 (l : Launch) (Z : State) (a0 : Array Value) (hw : ∀ d ∈ tables_1, d.before a0 Z = true) (ws : List Jvm.Cond) (a1 : Addr) (mv_ : Value) (dc : Addr) (kd : ClassId) (h0 : Heap) (n0 : Nat) (Z0 : n0 ≤ h0.size) (O0 : Old Z n0 h0) (E1 : Exa Z h0 a1 "java/util/ArrayList") (Fm : Fld Z h0 a1 "java/util/AbstractList" "modCount" "I" mv_) (Fz : Fld Z h0 a1 "java/util/ArrayList" "size" "I" (.int (0 : Int32))) (Fe : Fld Z h0 a1 "java/util/ArrayList" "elementData" "[Ljava/lang/Object;" (.ref dc)) (g1 : n0 ≤ a1) (Sdc : Sta Z Z.heap "java/util/ArrayList" "DEFAULTCAPACITY_EMPTY_ELEMENTDATA" "[Ljava/lang/Object;" (.ref dc)) (Adc : Arv Z Z.heap dc kd (.object "java/lang/Object") (0 : Int32) [] .null) :
    MetFree l (⟨"java/util/ArrayList", "grow", "()[Ljava/lang/Object;"⟩ : MethodName) (head1 (Jvm.Cond.code (⟨"java/util/ArrayList", "grow", "()[Ljava/lang/Object;"⟩ : MethodName) jdk_38_method_7_code 1 (some (.array (.object "java/lang/Object"))) :: ws) ({ frames := 2, cells := 1, slots := 10, locals := 29 } : Room)) (fun a U => a = #[(.ref a1)] ∧ Z.Warmed39 U.vm ∧ U.heap = h0) (fun _ _ _ _ _ => True) (fun _ U o U' => ∃ v L, o = .returned v ∧ Qgrow0 Z a1 mv_ dc kd h0 n0 v U'.heap L ∧ FrameEnd U o U' L ({ frames := 2, cells := 1, slots := 10, locals := 29 } : Room).cells ({ frames := 2, cells := 1, slots := 10, locals := 29 } : Room).slots) := by
  refine MetFree.of_bodySF (plainFor_of_name pn_java_util_ArrayList) hisR ?_
  intro p e s m args below meth c s₁ Bd hml0 hP hK
  obtain ⟨rfl, hZ, hH0⟩ := hP
  have hx := Bd.exec
  have hby := Bd.bytes
  have hml : c.maxLocals = 1 := hml0
  have hown : s.vm.findClass "java/util/ArrayList" = some m.cls := findClass_of_methodNamed Bd.named
  have hnm := (name_of_methodNamed Bd.named Bd.method).1
  have X0 : Stand p l e ({ frames := 2, cells := 1, slots := 10, locals := 29 } : Room) s m #[(.ref a1)] below meth c s₁ [] 0 0 := Stand.of_body Bd
  have e0 : s₁.heap = h0 := by rw [← hH0, Bd.state]; rfl
  have N0 := Fr.nil n0
  refine own_cast (ef_grow0 m a1) ?_
  show own_Go p e below (fun o U' => ∃ v L, o = .returned v ∧ Qgrow0 Z a1 mv_ dc kd h0 n0 v U'.heap L ∧ FrameEnd s o U' L ({ frames := 2, cells := 1, slots := 10, locals := 29 } : Room).cells ({ frames := 2, cells := 1, slots := 10, locals := 29 } : Room).slots) (s₁.setTop (mkF m 0 #[.val (.ref a1)] []))
  refine own_via (fun _ => XS.aloadN X0.here hx rfl (hb hby d17_0) rfl rfl) ?_
  show own_Go p e below _ (s₁.setTop (mkF m 1 #[.val (.ref a1)] [(.ref a1)]))
  refine own_via (fun _ => XS.aloadN X0.here hx rfl (hb hby d17_1) rfl rfl) ?_
  show own_Go p e below _ (s₁.setTop (mkF m 2 #[.val (.ref a1)] [(.ref a1), (.ref a1)]))
  obtain ⟨T_1, X_1, e_1, st_1⟩ := getF X0 hx hZ hown (host := "") (Or.inl (own_w hw 106 rfl)) Via.refl e0 Fz (g := (mkF m 2 #[.val (.ref a1)] [(.ref a1), (.ref a1)])) rfl rfl (hb hby d17_2)
  refine own_via st_1 ?_
  show own_Go p e below _ (T_1.setTop (mkF m 5 #[.val (.ref a1)] [(.int (0 : Int32)), (.ref a1)]))
  refine own_via (fun _ => XS.iconst X_1.here hx rfl (hb hby d17_5)) ?_
  show own_Go p e below _ (T_1.setTop (mkF m 6 #[.val (.ref a1)] [(.int (1 : Int32)), (.int (0 : Int32)), (.ref a1)]))
  refine own_via (fun _ => XS.iadd X_1.here hx rfl (hb hby d17_6) rfl) ?_
  show own_Go p e below _ (T_1.setTop (mkF m 7 #[.val (.ref a1)] [(.int (1 : Int32)), (.ref a1)]))
  obtain ⟨cq_2, q_2, q_2'⟩ := E1.cell
  obtain ⟨_, _, ⟨T_2, L_2, k_2, n_2⟩, -, X_2, ⟨Lc_2, hQ_2, l_2, y_2, z_2⟩, st_2⟩ := X_1.privateBack hx (y := (⟨"java/util/ArrayList", "grow", "(I)[Ljava/lang/Object;"⟩ : MethodName)) hown (mvT hZ (own_w hw 118 rfl)) (mvT hZ (own_w hw 119 rfl)) (mvT hZ (own_w hw 121 rfl)) (Cond.privateMethod_at (mvP hZ (own_w hw 120 rfl) (args := #[]))) (mvT hZ (own_w hw 122 rfl)) (by decide) (backOf (W := 0) (rmgrowI l Z a0 hw [] a1 mv_ dc kd h0 n0 Z0 O0 E1 Fm Fz Fe g1 Sdc Adc) hZ (own_w hw 122 rfl) (own_w hw 57 rfl) (by decide) (by decide)) (g := (mkF m 7 #[.val (.ref a1)] [(.int (1 : Int32)), (.ref a1)])) rfl (by rw [hml]; rfl) (Steps.refl _) (a := a1) (by rw [e_1]; exact q_2) q_2' (argsL := [(.int (1 : Int32))]) (rest := []) (lenOf pd_3 rfl) rfl (by show 2 * 0 + _ ≤ _; exact Nat.le_of_eq rfl) (hb hby d17_7) (fun _ _ => ⟨rfl, e_1, (by decide : 0 + 1 ≤ _), (by decide : 0 + 10 ≤ _)⟩)
  dsimp only [Pt.U, Pt.locs, Pt.cells, Pt.slots] at X_2 l_2 y_2 z_2 st_2 hQ_2
  subst l_2 y_2 z_2
  obtain ⟨r_3, u_4, rfl, Nq_2, K_2q, q_2_0, q_2_1, q_2_2, q_2_3, q_2_4, q_2_5⟩ := hQ_2
  have N_2 := Fr.app N0 Nq_2
  refine own_via (fun _ k => st_2.trans k) ?_
  show own_Go p e below _ (T_2.setTop (mkF m 10 #[.val (.ref a1)] [(.ref r_3)]))
  have K_5 : Keep h0 T_2.heap [a1] := Keep.trans (ws := [a1]) (own_keep_mono (Keep.refl h0 []) (by simp)) K_2q (allS (Or.inl (List.mem_of_getElem? (i := 0) rfl)) all0)
  exact own_retv X_2 Bd.notSynchronized hx Bd.returns rfl (Or.inr (Or.inr (Or.inr (Or.inr ⟨rfl, rfl, rfl⟩)))) (hb hby d17_10) (by decide) (by decide) ⟨r_3, u_4, rfl, N_2, K_5, q_2_0, q_2_1, q_2_2, q_2_3, q_2_4, q_2_5⟩
theorem d16_0 : decode jdk_38_method_24_code 0 = .ok (.iload_n 3, 1) := by decide +kernel
theorem d16_1 : decode jdk_38_method_24_code 1 = .ok (.aload_n 2, 1) := by decide +kernel
theorem d16_2 : decode jdk_38_method_24_code 2 = .ok (.arraylength, 1) := by decide +kernel
theorem d16_3 : decode jdk_38_method_24_code 3 = .ok (.if_icmp .ne 8, 3) := by decide +kernel
theorem d16_6 : decode jdk_38_method_24_code 6 = .ok (.aload_n 0, 1) := by decide +kernel
theorem d16_7 : decode jdk_38_method_24_code 7 = .ok (.invokevirtual 129, 3) := by decide +kernel
theorem d16_10 : decode jdk_38_method_24_code 10 = .ok (.astore_n 2, 1) := by decide +kernel
theorem d16_11 : decode jdk_38_method_24_code 11 = .ok (.aload_n 2, 1) := by decide +kernel
theorem d16_12 : decode jdk_38_method_24_code 12 = .ok (.iload_n 3, 1) := by decide +kernel
theorem d16_13 : decode jdk_38_method_24_code 13 = .ok (.aload_n 1, 1) := by decide +kernel
theorem d16_14 : decode jdk_38_method_24_code 14 = .ok (.aastore, 1) := by decide +kernel
theorem d16_15 : decode jdk_38_method_24_code 15 = .ok (.aload_n 0, 1) := by decide +kernel
theorem d16_16 : decode jdk_38_method_24_code 16 = .ok (.iload_n 3, 1) := by decide +kernel
theorem d16_17 : decode jdk_38_method_24_code 17 = .ok (.iconst 1, 1) := by decide +kernel
theorem d16_18 : decode jdk_38_method_24_code 18 = .ok (.iadd, 1) := by decide +kernel
theorem d16_19 : decode jdk_38_method_24_code 19 = .ok (.putfield 48, 3) := by decide +kernel
theorem d16_22 : decode jdk_38_method_24_code 22 = .ok (.return_, 1) := by decide +kernel
theorem pd_4 : parseMethodDescriptor "()[Ljava/lang/Object;" = some ⟨[], some (.array (.object "java/lang/Object"))⟩ := by decide +kernel
theorem ef_helpA (m : MethodId) (a1 : Addr) (x : Addr) (dc : Addr) : entryFrame m #[(.ref a1), (.ref x), (.ref dc), (.int (0 : Int32))] 4 = mkF m 0 #[.val (.ref a1), .val (.ref x), .val (.ref dc), .val (.int (0 : Int32))] [] := by first | (simp [entryFrame, mkF, argsToLocals, Value.category]; done) | rfl
def QhelpA (Z : State) (a1 : Addr) (x : Addr) (mv_ : Value) (dc : Addr) (kd : ClassId) (h0 : Heap) (n0 : Nat) (v : Option Value) (h : Heap) (L : List Loc) : Prop := ∃ r : Addr, ∃ k : ClassId, v = none ∧ Fr n0 L ∧ Keep h0 h [a1] ∧ (h0.size ≤ r) ∧ (Ovr Z k "java/lang/Object") ∧ (Arv Z h r k (.object "java/lang/Object") (10 : Int32) [(.ref x), .null, .null, .null, .null, .null, .null, .null, .null, .null] .null) ∧ (Fld Z h a1 "java/util/AbstractList" "modCount" "I" mv_) ∧ (Fld Z h a1 "java/util/ArrayList" "size" "I" (.int (1 : Int32))) ∧ (Fld Z h a1 "java/util/ArrayList" "elementData" "[Ljava/lang/Object;" (.ref r))
set_option maxRecDepth 65536 in
set_option maxHeartbeats 40000000 in
theorem rmhelpA (l : Launch) (Z : State) (a0 : Array Value) (hw : ∀ d ∈ tables_1, d.before a0 Z = true) (ws : List Jvm.Cond) (a1 : Addr) (x : Addr) (mv_ : Value) (dc : Addr) (kd : ClassId) (h0 : Heap) (n0 : Nat) (Z0 : n0 ≤ h0.size) (O0 : Old Z n0 h0) (E1 : Exa Z h0 a1 "java/util/ArrayList") (Fm : Fld Z h0 a1 "java/util/AbstractList" "modCount" "I" mv_) (Fz : Fld Z h0 a1 "java/util/ArrayList" "size" "I" (.int (0 : Int32))) (Fe : Fld Z h0 a1 "java/util/ArrayList" "elementData" "[Ljava/lang/Object;" (.ref dc)) (g1 : n0 ≤ a1) (Sdc : Sta Z Z.heap "java/util/ArrayList" "DEFAULTCAPACITY_EMPTY_ELEMENTDATA" "[Ljava/lang/Object;" (.ref dc)) (Adc : Arv Z Z.heap dc kd (.object "java/lang/Object") (0 : Int32) [] .null) (Ix : Ins Z h0 x "java/lang/Object" true) :
    MetFree l (⟨"java/util/ArrayList", "add", "(Ljava/lang/Object;[Ljava/lang/Object;I)V"⟩ : MethodName) (head1 (Jvm.Cond.code (⟨"java/util/ArrayList", "add", "(Ljava/lang/Object;[Ljava/lang/Object;I)V"⟩ : MethodName) jdk_38_method_24_code 4 none :: ws) ({ frames := 3, cells := 1, slots := 10, locals := 41 } : Room)) (fun a U => a = #[(.ref a1), (.ref x), (.ref dc), (.int (0 : Int32))] ∧ Z.Warmed39 U.vm ∧ U.heap = h0) (fun _ _ _ _ _ => True) (fun _ U o U' => ∃ v L, o = .returned v ∧ QhelpA Z a1 x mv_ dc kd h0 n0 v U'.heap L ∧ FrameEnd U o U' L ({ frames := 3, cells := 1, slots := 10, locals := 41 } : Room).cells ({ frames := 3, cells := 1, slots := 10, locals := 41 } : Room).slots) := by
  refine MetFree.of_bodySF (plainFor_of_name pn_java_util_ArrayList) hisR ?_
  intro p e s m args below meth c s₁ Bd hml0 hP hK
  obtain ⟨rfl, hZ, hH0⟩ := hP
  have hx := Bd.exec
  have hby := Bd.bytes
  have hml : c.maxLocals = 4 := hml0
  have hown : s.vm.findClass "java/util/ArrayList" = some m.cls := findClass_of_methodNamed Bd.named
  have hnm := (name_of_methodNamed Bd.named Bd.method).1
  have X0 : Stand p l e ({ frames := 3, cells := 1, slots := 10, locals := 41 } : Room) s m #[(.ref a1), (.ref x), (.ref dc), (.int (0 : Int32))] below meth c s₁ [] 0 0 := Stand.of_body Bd
  have e0 : s₁.heap = h0 := by rw [← hH0, Bd.state]; rfl
  have N0 := Fr.nil n0
  refine own_cast (ef_helpA m a1 x dc) ?_
  show own_Go p e below (fun o U' => ∃ v L, o = .returned v ∧ QhelpA Z a1 x mv_ dc kd h0 n0 v U'.heap L ∧ FrameEnd s o U' L ({ frames := 3, cells := 1, slots := 10, locals := 41 } : Room).cells ({ frames := 3, cells := 1, slots := 10, locals := 41 } : Room).slots) (s₁.setTop (mkF m 0 #[.val (.ref a1), .val (.ref x), .val (.ref dc), .val (.int (0 : Int32))] []))
  refine own_via (fun _ => XS.iloadN X0.here hx rfl (hb hby d16_0) rfl) ?_
  show own_Go p e below _ (s₁.setTop (mkF m 1 #[.val (.ref a1), .val (.ref x), .val (.ref dc), .val (.int (0 : Int32))] [(.int (0 : Int32))]))
  refine own_via (fun _ => XS.aloadN X0.here hx rfl (hb hby d16_1) rfl rfl) ?_
  show own_Go p e below _ (s₁.setTop (mkF m 2 #[.val (.ref a1), .val (.ref x), .val (.ref dc), .val (.int (0 : Int32))] [(.ref dc), (.int (0 : Int32))]))
  obtain ⟨cl_1, Ar_1, q_1, S_1, M_1, H_1, G_1⟩ := (id (Adc.ext O0.2))
  refine own_via (X0.arraylength hx (by rw [e0]; exact Ar_1.1) (State.isArrayOf_alike hZ.alike Ar_1.2.1) (g := (mkF m 2 #[.val (.ref a1), .val (.ref x), .val (.ref dc), .val (.int (0 : Int32))] [(.ref dc), (.int (0 : Int32))])) rfl rfl (hb hby d16_2)) ?_
  rw [len_of S_1 M_1]
  show own_Go p e below _ (s₁.setTop (mkF m 3 #[.val (.ref a1), .val (.ref x), .val (.ref dc), .val (.int (0 : Int32))] [(.int (0 : Int32)), (.int (0 : Int32))]))
  refine own_via (fun _ => XS.icmpNo X0.here hx rfl (hb hby d16_3) rfl (teq ((by decide) : (0 : Int32) = (0 : Int32))).2) ?_
  show own_Go p e below _ (s₁.setTop (mkF m 6 #[.val (.ref a1), .val (.ref x), .val (.ref dc), .val (.int (0 : Int32))] []))
  refine own_via (fun _ => XS.aloadN X0.here hx rfl (hb hby d16_6) rfl rfl) ?_
  show own_Go p e below _ (s₁.setTop (mkF m 7 #[.val (.ref a1), .val (.ref x), .val (.ref dc), .val (.int (0 : Int32))] [(.ref a1)]))
  obtain ⟨cq_2, q_2, q_2'⟩ := E1.cell
  obtain ⟨_, _, ⟨T_2, L_2, k_2, n_2⟩, -, X_2, ⟨Lc_2, hQ_2, l_2, y_2, z_2⟩, st_2⟩ := X0.privateBack hx (y := (⟨"java/util/ArrayList", "grow", "()[Ljava/lang/Object;"⟩ : MethodName)) hown (mvT hZ (own_w hw 113 rfl)) (mvT hZ (own_w hw 114 rfl)) (mvT hZ (own_w hw 116 rfl)) (Cond.privateMethod_at (mvP hZ (own_w hw 115 rfl) (args := #[]))) (mvT hZ (own_w hw 117 rfl)) (by decide) (backOf (W := 0) (rmgrow0 l Z a0 hw [] a1 mv_ dc kd h0 n0 Z0 O0 E1 Fm Fz Fe g1 Sdc Adc) hZ (own_w hw 117 rfl) (own_w hw 57 rfl) (by decide) (by decide)) (g := (mkF m 7 #[.val (.ref a1), .val (.ref x), .val (.ref dc), .val (.int (0 : Int32))] [(.ref a1)])) rfl (by rw [hml]; rfl) (Steps.refl _) (a := a1) (by rw [e0]; exact q_2) q_2' (argsL := []) (rest := []) (lenOf pd_4 rfl) rfl (by show 2 * 0 + _ ≤ _; exact Nat.le_of_eq rfl) (hb hby d16_7) (fun _ _ => ⟨rfl, e0, (by decide : 0 + 1 ≤ _), (by decide : 0 + 10 ≤ _)⟩)
  dsimp only [Pt.U, Pt.locs, Pt.cells, Pt.slots] at X_2 l_2 y_2 z_2 st_2 hQ_2
  subst l_2 y_2 z_2
  obtain ⟨r_3, u_4, rfl, Nq_2, K_2q, q_2_0, q_2_1, q_2_2, q_2_3, q_2_4, q_2_5⟩ := hQ_2
  have N_2 := Fr.app N0 Nq_2
  refine own_via (fun _ k => st_2.trans k) ?_
  show own_Go p e below _ (T_2.setTop (mkF m 10 #[.val (.ref a1), .val (.ref x), .val (.ref dc), .val (.int (0 : Int32))] [(.ref r_3)]))
  refine own_via (fun _ => XS.astoreN X_2.here hx rfl (hb hby d16_10) rfl rfl (l' := #[.val (.ref a1), .val (.ref x), .val (.ref r_3), .val (.int (0 : Int32))]) rfl) ?_
  show own_Go p e below _ (T_2.setTop (mkF m 11 #[.val (.ref a1), .val (.ref x), .val (.ref r_3), .val (.int (0 : Int32))] []))
  refine own_via (fun _ => XS.aloadN X_2.here hx rfl (hb hby d16_11) rfl rfl) ?_
  show own_Go p e below _ (T_2.setTop (mkF m 12 #[.val (.ref a1), .val (.ref x), .val (.ref r_3), .val (.int (0 : Int32))] [(.ref r_3)]))
  refine own_via (fun _ => XS.iloadN X_2.here hx rfl (hb hby d16_12) rfl) ?_
  show own_Go p e below _ (T_2.setTop (mkF m 13 #[.val (.ref a1), .val (.ref x), .val (.ref r_3), .val (.int (0 : Int32))] [(.int (0 : Int32)), (.ref r_3)]))
  refine own_via (fun _ => XS.aloadN X_2.here hx rfl (hb hby d16_13) rfl rfl) ?_
  show own_Go p e below _ (T_2.setTop (mkF m 14 #[.val (.ref a1), .val (.ref x), .val (.ref r_3), .val (.int (0 : Int32))] [(.ref x), (.int (0 : Int32)), (.ref r_3)]))
  have K_6 : Keep h0 T_2.heap [a1] := Keep.trans (ws := [a1]) (own_keep_mono (Keep.refl h0 []) (by simp)) K_2q (allS (Or.inl (List.mem_of_getElem? (i := 0) rfl)) all0)
  obtain ⟨cl_5, Ar_5, q_5, S_5, M_5, H_5, G_5⟩ := (id q_2_2)
  obtain ⟨T_5, h_5, X_5, e_5, W_5, st_5⟩ := stR X_2 hx hZ rfl Ar_5 (j := (0 : Int32)) (inb_of S_5 ⟨by decide, by decide⟩) rfl (Sto.ofV Ar_5 q_5 q_2_1 (own_InsKeep Ix K_6)) (g := (mkF m 14 #[.val (.ref a1), .val (.ref x), .val (.ref r_3), .val (.int (0 : Int32))] [(.ref x), (.int (0 : Int32)), (.ref r_3)])) rfl rfl (hb hby d16_14)
  have V_5 : Arv Z h_5 r_3 u_4 (.object "java/lang/Object") (10 : Int32) [(.ref x), .null, .null, .null, .null, .null, .null, .null, .null, .null] .null := Arv.set Ar_5 q_5 S_5 M_5 H_5 G_5 rfl W_5 0 rfl (Nat.le_of_ble_eq_true rfl)
  have N_5 := Fr.snoc X_5 N_2 (Nat.le_trans Z0 q_2_0)
  refine own_via st_5 ?_
  show own_Go p e below _ (T_5.setTop (mkF m 15 #[.val (.ref a1), .val (.ref x), .val (.ref r_3), .val (.int (0 : Int32))] []))
  refine own_via (fun _ => XS.aloadN X_5.here hx rfl (hb hby d16_15) rfl rfl) ?_
  show own_Go p e below _ (T_5.setTop (mkF m 16 #[.val (.ref a1), .val (.ref x), .val (.ref r_3), .val (.int (0 : Int32))] [(.ref a1)]))
  refine own_via (fun _ => XS.iloadN X_5.here hx rfl (hb hby d16_16) rfl) ?_
  show own_Go p e below _ (T_5.setTop (mkF m 17 #[.val (.ref a1), .val (.ref x), .val (.ref r_3), .val (.int (0 : Int32))] [(.int (0 : Int32)), (.ref a1)]))
  refine own_via (fun _ => XS.iconst X_5.here hx rfl (hb hby d16_17)) ?_
  show own_Go p e below _ (T_5.setTop (mkF m 18 #[.val (.ref a1), .val (.ref x), .val (.ref r_3), .val (.int (0 : Int32))] [(.int (1 : Int32)), (.int (0 : Int32)), (.ref a1)]))
  refine own_via (fun _ => XS.iadd X_5.here hx rfl (hb hby d16_18) rfl) ?_
  show own_Go p e below _ (T_5.setTop (mkF m 19 #[.val (.ref a1), .val (.ref x), .val (.ref r_3), .val (.int (0 : Int32))] [(.int (1 : Int32)), (.ref a1)]))
  have K_7 : Keep h0 h_5 [a1] := Keep.wr (ws := [a1]) K_6 W_5 (Or.inr q_2_0)
  have K_8 : Keep T_2.heap h_5 [r_3] := Keep.wr (ws := [r_3]) (own_keep_mono (Keep.refl T_2.heap []) (by simp)) W_5 (Or.inl (List.mem_of_getElem? (i := 0) rfl))
  obtain ⟨T_9, h_9, X_9, e_9, W_9, st_9⟩ := putF X_5 hx hZ hown (host := "") (Or.inl (own_w hw 106 rfl)) Via.refl e_5 (q_2_4.keep K_8 (ninS (Nat.ne_of_lt (Nat.lt_of_lt_of_le E1.lt q_2_0)) nin0)) (E1.keep K_7) (Or.inl (own_w hw 107 rfl)) (own_w hw 56 rfl) (ty := .int) (by decide) rfl rfl (g := (mkF m 19 #[.val (.ref a1), .val (.ref x), .val (.ref r_3), .val (.int (0 : Int32))] [(.int (1 : Int32)), (.ref a1)])) rfl rfl (hb hby d16_19)
  have F_10 : Fld Z h_9 a1 "java/util/AbstractList" "modCount" "I" mv_ := (q_2_3.keep K_8 (ninS (Nat.ne_of_lt (Nat.lt_of_lt_of_le E1.lt q_2_0)) nin0)).other W_9 (Or.inr (slot_ne (Or.inl (own_w hw 75 rfl)) (Or.inl (own_w hw 107 rfl)) (by decide) (t := .int) (t' := .int) (by decide) (by decide)))
  have F_11 : Fld Z h_9 a1 "java/util/ArrayList" "elementData" "[Ljava/lang/Object;" (.ref r_3) := (q_2_5.keep K_8 (ninS (Nat.ne_of_lt (Nat.lt_of_lt_of_le E1.lt q_2_0)) nin0)).other W_9 (Or.inr (slot_ne (Or.inl (own_w hw 78 rfl)) (Or.inl (own_w hw 107 rfl)) (by decide) (t := (.array (.object "java/lang/Object"))) (t' := .int) (by decide) (by decide)))
  have F_12 : Fld Z h_9 a1 "java/util/ArrayList" "size" "I" (.int (1 : Int32)) := (q_2_4.keep K_8 (ninS (Nat.ne_of_lt (Nat.lt_of_lt_of_le E1.lt q_2_0)) nin0)).same W_9
  have N_9 := Fr.snoc X_9 N_5 g1
  refine own_via st_9 ?_
  show own_Go p e below _ (T_9.setTop (mkF m 22 #[.val (.ref a1), .val (.ref x), .val (.ref r_3), .val (.int (0 : Int32))] []))
  have K_13 : Keep h_5 h_9 [a1] := Keep.wr (ws := [a1]) (own_keep_mono (Keep.refl h_5 []) (by simp)) W_9 (Or.inl (List.mem_of_getElem? (i := 0) rfl))
  have K_14 : Keep h0 h_9 [a1] := Keep.wr (ws := [a1]) K_7 W_9 (Or.inl (List.mem_of_getElem? (i := 0) rfl))
  exact own_ret0 X_9 Bd.notSynchronized hx Bd.returns (hb hby d16_22) (by decide) (by decide) (by rw [e_9]; exact ⟨r_3, u_4, rfl, N_9, K_14, q_2_0, q_2_1, (V_5.keep K_13 (ninS (Ne.symm (Nat.ne_of_lt (Nat.lt_of_lt_of_le E1.lt q_2_0))) nin0)), F_10, F_12, F_11⟩)
theorem ef_helpB (m : MethodId) (a1 : Addr) (x : Addr) (ar : Addr) (n : Nat) : entryFrame m #[(.ref a1), (.ref x), (.ref ar), (.int (Int32.ofNat n))] 4 = mkF m 0 #[.val (.ref a1), .val (.ref x), .val (.ref ar), .val (.int (Int32.ofNat n))] [] := by first | (simp [entryFrame, mkF, argsToLocals, Value.category]; done) | rfl
def QhelpB (Z : State) (a1 : Addr) (x : Addr) (mv_ : Value) (ar : Addr) (k : ClassId) (vs : List Value) (n : Nat) (h0 : Heap) (n0 : Nat) (v : Option Value) (h : Heap) (L : List Loc) : Prop := v = none ∧ Fr n0 L ∧ Keep h0 h [a1, ar] ∧ (Arv Z h ar k (.object "java/lang/Object") (10 : Int32) (vs.set n (.ref x)) .null) ∧ (Fld Z h a1 "java/util/AbstractList" "modCount" "I" mv_) ∧ (Fld Z h a1 "java/util/ArrayList" "size" "I" (.int (Int32.ofNat (n + 1)))) ∧ (Fld Z h a1 "java/util/ArrayList" "elementData" "[Ljava/lang/Object;" (.ref ar))
set_option maxRecDepth 65536 in
set_option maxHeartbeats 40000000 in
theorem rmhelpB (l : Launch) (Z : State) (a0 : Array Value) (hw : ∀ d ∈ tables_1, d.before a0 Z = true) (ws : List Jvm.Cond) (a1 : Addr) (x : Addr) (mv_ : Value) (ar : Addr) (k : ClassId) (vs : List Value) (n : Nat) (h0 : Heap) (n0 : Nat) (Z0 : n0 ≤ h0.size) (E1 : Exa Z h0 a1 "java/util/ArrayList") (Fm : Fld Z h0 a1 "java/util/AbstractList" "modCount" "I" mv_) (Fz : Fld Z h0 a1 "java/util/ArrayList" "size" "I" (.int (Int32.ofNat n))) (Fe : Fld Z h0 a1 "java/util/ArrayList" "elementData" "[Ljava/lang/Object;" (.ref ar)) (g1 : n0 ≤ a1) (Aar : Arv Z h0 ar k (.object "java/lang/Object") (10 : Int32) vs .null) (Ok : Ovr Z k "java/lang/Object") (hv : vs.length = 10) (hn : n < 9) (ga : n0 ≤ ar) (nea : ar ≠ a1) (Ix : Ins Z h0 x "java/lang/Object" true) :
    MetFree l (⟨"java/util/ArrayList", "add", "(Ljava/lang/Object;[Ljava/lang/Object;I)V"⟩ : MethodName) (head1 (Jvm.Cond.code (⟨"java/util/ArrayList", "add", "(Ljava/lang/Object;[Ljava/lang/Object;I)V"⟩ : MethodName) jdk_38_method_24_code 4 none :: ws) ({ frames := 0, cells := 0, slots := 0, locals := 0 } : Room)) (fun a U => a = #[(.ref a1), (.ref x), (.ref ar), (.int (Int32.ofNat n))] ∧ Z.Warmed39 U.vm ∧ U.heap = h0) (fun _ _ _ _ _ => True) (fun _ U o U' => ∃ v L, o = .returned v ∧ QhelpB Z a1 x mv_ ar k vs n h0 n0 v U'.heap L ∧ FrameEnd U o U' L ({ frames := 0, cells := 0, slots := 0, locals := 0 } : Room).cells ({ frames := 0, cells := 0, slots := 0, locals := 0 } : Room).slots) := by
  refine MetFree.of_bodySF (plainFor_of_name pn_java_util_ArrayList) hisR ?_
  intro p e s m args below meth c s₁ Bd hml0 hP hK
  obtain ⟨rfl, hZ, hH0⟩ := hP
  have hx := Bd.exec
  have hby := Bd.bytes
  have hml : c.maxLocals = 4 := hml0
  have hown : s.vm.findClass "java/util/ArrayList" = some m.cls := findClass_of_methodNamed Bd.named
  have hnm := (name_of_methodNamed Bd.named Bd.method).1
  have X0 : Stand p l e ({ frames := 0, cells := 0, slots := 0, locals := 0 } : Room) s m #[(.ref a1), (.ref x), (.ref ar), (.int (Int32.ofNat n))] below meth c s₁ [] 0 0 := Stand.of_body Bd
  have e0 : s₁.heap = h0 := by rw [← hH0, Bd.state]; rfl
  have N0 := Fr.nil n0
  refine own_cast (ef_helpB m a1 x ar n) ?_
  show own_Go p e below (fun o U' => ∃ v L, o = .returned v ∧ QhelpB Z a1 x mv_ ar k vs n h0 n0 v U'.heap L ∧ FrameEnd s o U' L ({ frames := 0, cells := 0, slots := 0, locals := 0 } : Room).cells ({ frames := 0, cells := 0, slots := 0, locals := 0 } : Room).slots) (s₁.setTop (mkF m 0 #[.val (.ref a1), .val (.ref x), .val (.ref ar), .val (.int (Int32.ofNat n))] []))
  refine own_via (fun _ => XS.iloadN X0.here hx rfl (hb hby d16_0) rfl) ?_
  show own_Go p e below _ (s₁.setTop (mkF m 1 #[.val (.ref a1), .val (.ref x), .val (.ref ar), .val (.int (Int32.ofNat n))] [(.int (Int32.ofNat n))]))
  refine own_via (fun _ => XS.aloadN X0.here hx rfl (hb hby d16_1) rfl rfl) ?_
  show own_Go p e below _ (s₁.setTop (mkF m 2 #[.val (.ref a1), .val (.ref x), .val (.ref ar), .val (.int (Int32.ofNat n))] [(.ref ar), (.int (Int32.ofNat n))]))
  obtain ⟨cl_1, Ar_1, q_1, S_1, M_1, H_1, G_1⟩ := (id Aar)
  refine own_via (X0.arraylength hx (by rw [e0]; exact Ar_1.1) (State.isArrayOf_alike hZ.alike Ar_1.2.1) (g := (mkF m 2 #[.val (.ref a1), .val (.ref x), .val (.ref ar), .val (.int (Int32.ofNat n))] [(.ref ar), (.int (Int32.ofNat n))])) rfl rfl (hb hby d16_2)) ?_
  rw [len_of S_1 M_1]
  show own_Go p e below _ (s₁.setTop (mkF m 3 #[.val (.ref a1), .val (.ref x), .val (.ref ar), .val (.int (Int32.ofNat n))] [(.int (10 : Int32)), (.int (Int32.ofNat n))]))
  refine own_via (fun _ => XS.icmpYes X0.here hx rfl (pc0 := 3) (pc' := 11) rfl (hb hby d16_3) rfl (feq (fun q => absurd ((own_eq (i := n) (j := 10) (by omega) (by decide)).mp q) (by omega) : ¬ ((Int32.ofNat n) = (10 : Int32)))).2 (by decide) (by decide)) ?_
  show own_Go p e below _ (s₁.setTop (mkF m 11 #[.val (.ref a1), .val (.ref x), .val (.ref ar), .val (.int (Int32.ofNat n))] []))
  refine own_via (fun _ => XS.aloadN X0.here hx rfl (hb hby d16_11) rfl rfl) ?_
  show own_Go p e below _ (s₁.setTop (mkF m 12 #[.val (.ref a1), .val (.ref x), .val (.ref ar), .val (.int (Int32.ofNat n))] [(.ref ar)]))
  refine own_via (fun _ => XS.iloadN X0.here hx rfl (hb hby d16_12) rfl) ?_
  show own_Go p e below _ (s₁.setTop (mkF m 13 #[.val (.ref a1), .val (.ref x), .val (.ref ar), .val (.int (Int32.ofNat n))] [(.int (Int32.ofNat n)), (.ref ar)]))
  refine own_via (fun _ => XS.aloadN X0.here hx rfl (hb hby d16_13) rfl rfl) ?_
  show own_Go p e below _ (s₁.setTop (mkF m 14 #[.val (.ref a1), .val (.ref x), .val (.ref ar), .val (.int (Int32.ofNat n))] [(.ref x), (.int (Int32.ofNat n)), (.ref ar)]))
  obtain ⟨cl_2, Ar_2, q_2, S_2, M_2, H_2, G_2⟩ := (id Aar)
  obtain ⟨T_2, h_2, X_2, e_2, W_2, st_2⟩ := stR X0 hx hZ e0 Ar_2 (j := (Int32.ofNat n)) (own_inb10 S_2 (by omega)) rfl (Sto.ofV Ar_2 q_2 Ok Ix) (g := (mkF m 14 #[.val (.ref a1), .val (.ref x), .val (.ref ar), .val (.int (Int32.ofNat n))] [(.ref x), (.int (Int32.ofNat n)), (.ref ar)])) rfl rfl (hb hby d16_14)
  have V_2 : Arv Z h_2 ar k (.object "java/lang/Object") (10 : Int32) (vs.set n (.ref x)) .null := Arv.set Ar_2 q_2 S_2 M_2 H_2 G_2 rfl W_2 n (own_clamp (by omega)) (by omega)
  have N_2 := Fr.snoc X_2 N0 ga
  refine own_via st_2 ?_
  show own_Go p e below _ (T_2.setTop (mkF m 15 #[.val (.ref a1), .val (.ref x), .val (.ref ar), .val (.int (Int32.ofNat n))] []))
  refine own_via (fun _ => XS.aloadN X_2.here hx rfl (hb hby d16_15) rfl rfl) ?_
  show own_Go p e below _ (T_2.setTop (mkF m 16 #[.val (.ref a1), .val (.ref x), .val (.ref ar), .val (.int (Int32.ofNat n))] [(.ref a1)]))
  refine own_via (fun _ => XS.iloadN X_2.here hx rfl (hb hby d16_16) rfl) ?_
  show own_Go p e below _ (T_2.setTop (mkF m 17 #[.val (.ref a1), .val (.ref x), .val (.ref ar), .val (.int (Int32.ofNat n))] [(.int (Int32.ofNat n)), (.ref a1)]))
  refine own_via (fun _ => XS.iconst X_2.here hx rfl (hb hby d16_17)) ?_
  show own_Go p e below _ (T_2.setTop (mkF m 18 #[.val (.ref a1), .val (.ref x), .val (.ref ar), .val (.int (Int32.ofNat n))] [(.int (1 : Int32)), (.int (Int32.ofNat n)), (.ref a1)]))
  refine own_via (fun _ => XS.iadd X_2.here hx rfl (hb hby d16_18) rfl) ?_
  show own_Go p e below _ (T_2.setTop (mkF m 19 #[.val (.ref a1), .val (.ref x), .val (.ref ar), .val (.int (Int32.ofNat n))] [(.int ((Int32.ofNat n) + (1 : Int32))), (.ref a1)]))
  rw [own_succ]
  show own_Go p e below _ (T_2.setTop (mkF m 19 #[.val (.ref a1), .val (.ref x), .val (.ref ar), .val (.int (Int32.ofNat n))] [(.int (Int32.ofNat (n + 1))), (.ref a1)]))
  have K_3 : Keep h0 h_2 [ar] := Keep.wr (ws := [ar]) (own_keep_mono (Keep.refl h0 []) (by simp)) W_2 (Or.inl (List.mem_of_getElem? (i := 0) rfl))
  obtain ⟨T_4, h_4, X_4, e_4, W_4, st_4⟩ := putF X_2 hx hZ hown (host := "") (Or.inl (own_w hw 106 rfl)) Via.refl e_2 (Fz.keep K_3 (ninS (Ne.symm nea) nin0)) (E1.keep K_3) (Or.inl (own_w hw 107 rfl)) (own_w hw 56 rfl) (ty := .int) (by decide) rfl rfl (g := (mkF m 19 #[.val (.ref a1), .val (.ref x), .val (.ref ar), .val (.int (Int32.ofNat n))] [(.int (Int32.ofNat (n + 1))), (.ref a1)])) rfl rfl (hb hby d16_19)
  have F_5 : Fld Z h_4 a1 "java/util/AbstractList" "modCount" "I" mv_ := (Fm.keep K_3 (ninS (Ne.symm nea) nin0)).other W_4 (Or.inr (slot_ne (Or.inl (own_w hw 75 rfl)) (Or.inl (own_w hw 107 rfl)) (by decide) (t := .int) (t' := .int) (by decide) (by decide)))
  have F_6 : Fld Z h_4 a1 "java/util/ArrayList" "elementData" "[Ljava/lang/Object;" (.ref ar) := (Fe.keep K_3 (ninS (Ne.symm nea) nin0)).other W_4 (Or.inr (slot_ne (Or.inl (own_w hw 78 rfl)) (Or.inl (own_w hw 107 rfl)) (by decide) (t := (.array (.object "java/lang/Object"))) (t' := .int) (by decide) (by decide)))
  have F_7 : Fld Z h_4 a1 "java/util/ArrayList" "size" "I" (.int (Int32.ofNat (n + 1))) := (Fz.keep K_3 (ninS (Ne.symm nea) nin0)).same W_4
  have N_4 := Fr.snoc X_4 N_2 g1
  refine own_via st_4 ?_
  show own_Go p e below _ (T_4.setTop (mkF m 22 #[.val (.ref a1), .val (.ref x), .val (.ref ar), .val (.int (Int32.ofNat n))] []))
  have K_8 : Keep h_2 h_4 [a1] := Keep.wr (ws := [a1]) (own_keep_mono (Keep.refl h_2 []) (by simp)) W_4 (Or.inl (List.mem_of_getElem? (i := 0) rfl))
  have K_9 : Keep h0 h_4 [ar, a1] := Keep.wr (ws := [ar, a1]) (own_keep_mono K_3 (by simp)) W_4 (Or.inl (List.mem_of_getElem? (i := 1) rfl))
  exact own_ret0 X_4 Bd.notSynchronized hx Bd.returns (hb hby d16_22) (by decide) (by decide) (by rw [e_4]; exact ⟨rfl, N_4, (own_keep_mono K_9 (by simp)), (V_2.keep K_8 (ninS nea nin0)), F_5, F_7, F_6⟩)
theorem d15_0 : decode jdk_38_method_25_code 0 = .ok (.aload_n 0, 1) := by decide +kernel
theorem d15_1 : decode jdk_38_method_25_code 1 = .ok (.dup, 1) := by decide +kernel
theorem d15_2 : decode jdk_38_method_25_code 2 = .ok (.getfield 63, 3) := by decide +kernel
theorem d15_5 : decode jdk_38_method_25_code 5 = .ok (.iconst 1, 1) := by decide +kernel
theorem d15_6 : decode jdk_38_method_25_code 6 = .ok (.iadd, 1) := by decide +kernel
theorem d15_7 : decode jdk_38_method_25_code 7 = .ok (.putfield 63, 3) := by decide +kernel
theorem d15_10 : decode jdk_38_method_25_code 10 = .ok (.aload_n 0, 1) := by decide +kernel
theorem d15_11 : decode jdk_38_method_25_code 11 = .ok (.aload_n 1, 1) := by decide +kernel
theorem d15_12 : decode jdk_38_method_25_code 12 = .ok (.aload_n 0, 1) := by decide +kernel
theorem d15_13 : decode jdk_38_method_25_code 13 = .ok (.getfield 9, 3) := by decide +kernel
theorem d15_16 : decode jdk_38_method_25_code 16 = .ok (.aload_n 0, 1) := by decide +kernel
theorem d15_17 : decode jdk_38_method_25_code 17 = .ok (.getfield 48, 3) := by decide +kernel
theorem d15_20 : decode jdk_38_method_25_code 20 = .ok (.invokevirtual 131, 3) := by decide +kernel
theorem d15_23 : decode jdk_38_method_25_code 23 = .ok (.iconst 1, 1) := by decide +kernel
theorem d15_24 : decode jdk_38_method_25_code 24 = .ok (.ireturn, 1) := by decide +kernel
theorem pd_5 : parseMethodDescriptor "(Ljava/lang/Object;[Ljava/lang/Object;I)V" = some ⟨[(.object "java/lang/Object"), (.array (.object "java/lang/Object")), .int], none⟩ := by decide +kernel
theorem ef_addA (m : MethodId) (a1 : Addr) (x : Addr) : entryFrame m #[(.ref a1), (.ref x)] 2 = mkF m 0 #[.val (.ref a1), .val (.ref x)] [] := by first | (simp [entryFrame, mkF, argsToLocals, Value.category]; done) | rfl
def QaddA (Z : State) (a1 : Addr) (x : Addr) (dc : Addr) (kd : ClassId) (h0 : Heap) (n0 : Nat) (v : Option Value) (h : Heap) (L : List Loc) : Prop := ∃ r : Addr, ∃ k : ClassId, v = some (.int (1 : Int32)) ∧ Fr n0 L ∧ Keep h0 h [a1] ∧ (h0.size ≤ r) ∧ (Ovr Z k "java/lang/Object") ∧ (Arv Z h r k (.object "java/lang/Object") (10 : Int32) [(.ref x), .null, .null, .null, .null, .null, .null, .null, .null, .null] .null) ∧ (Fld Z h a1 "java/util/AbstractList" "modCount" "I" (.int (1 : Int32))) ∧ (Fld Z h a1 "java/util/ArrayList" "size" "I" (.int (1 : Int32))) ∧ (Fld Z h a1 "java/util/ArrayList" "elementData" "[Ljava/lang/Object;" (.ref r))
set_option maxRecDepth 65536 in
set_option maxHeartbeats 40000000 in
theorem rmaddA (l : Launch) (Z : State) (a0 : Array Value) (hw : ∀ d ∈ tables_1, d.before a0 Z = true) (ws : List Jvm.Cond) (a1 : Addr) (x : Addr) (dc : Addr) (kd : ClassId) (h0 : Heap) (n0 : Nat) (Z0 : n0 ≤ h0.size) (O0 : Old Z n0 h0) (E1 : Exa Z h0 a1 "java/util/ArrayList") (Fm : Fld Z h0 a1 "java/util/AbstractList" "modCount" "I" (.int (0 : Int32))) (Fz : Fld Z h0 a1 "java/util/ArrayList" "size" "I" (.int (0 : Int32))) (Fe : Fld Z h0 a1 "java/util/ArrayList" "elementData" "[Ljava/lang/Object;" (.ref dc)) (g1 : n0 ≤ a1) (Sdc : Sta Z Z.heap "java/util/ArrayList" "DEFAULTCAPACITY_EMPTY_ELEMENTDATA" "[Ljava/lang/Object;" (.ref dc)) (Adc : Arv Z Z.heap dc kd (.object "java/lang/Object") (0 : Int32) [] .null) (Ix : Ins Z h0 x "java/lang/Object" true) :
    MetFree l (⟨"java/util/ArrayList", "add", "(Ljava/lang/Object;)Z"⟩ : MethodName) (head1 (Jvm.Cond.code (⟨"java/util/ArrayList", "add", "(Ljava/lang/Object;)Z"⟩ : MethodName) jdk_38_method_25_code 2 (some .boolean) :: ws) ({ frames := 4, cells := 1, slots := 10, locals := 56 } : Room)) (fun a U => a = #[(.ref a1), (.ref x)] ∧ Z.Warmed39 U.vm ∧ U.heap = h0) (fun _ _ _ _ _ => True) (fun _ U o U' => ∃ v L, o = .returned v ∧ QaddA Z a1 x dc kd h0 n0 v U'.heap L ∧ FrameEnd U o U' L ({ frames := 4, cells := 1, slots := 10, locals := 56 } : Room).cells ({ frames := 4, cells := 1, slots := 10, locals := 56 } : Room).slots) := by
  refine MetFree.of_bodySF (plainFor_of_name pn_java_util_ArrayList) hisR ?_
  intro p e s m args below meth c s₁ Bd hml0 hP hK
  obtain ⟨rfl, hZ, hH0⟩ := hP
  have hx := Bd.exec
  have hby := Bd.bytes
  have hml : c.maxLocals = 2 := hml0
  have hown : s.vm.findClass "java/util/ArrayList" = some m.cls := findClass_of_methodNamed Bd.named
  have hnm := (name_of_methodNamed Bd.named Bd.method).1
  have X0 : Stand p l e ({ frames := 4, cells := 1, slots := 10, locals := 56 } : Room) s m #[(.ref a1), (.ref x)] below meth c s₁ [] 0 0 := Stand.of_body Bd
  have e0 : s₁.heap = h0 := by rw [← hH0, Bd.state]; rfl
  have N0 := Fr.nil n0
  refine own_cast (ef_addA m a1 x) ?_
  show own_Go p e below (fun o U' => ∃ v L, o = .returned v ∧ QaddA Z a1 x dc kd h0 n0 v U'.heap L ∧ FrameEnd s o U' L ({ frames := 4, cells := 1, slots := 10, locals := 56 } : Room).cells ({ frames := 4, cells := 1, slots := 10, locals := 56 } : Room).slots) (s₁.setTop (mkF m 0 #[.val (.ref a1), .val (.ref x)] []))
  refine own_via (fun _ => XS.aloadN X0.here hx rfl (hb hby d15_0) rfl rfl) ?_
  show own_Go p e below _ (s₁.setTop (mkF m 1 #[.val (.ref a1), .val (.ref x)] [(.ref a1)]))
  refine own_via (fun _ => XS.dup X0.here hx rfl (hb hby d15_1) rfl rfl) ?_
  show own_Go p e below _ (s₁.setTop (mkF m 2 #[.val (.ref a1), .val (.ref x)] [(.ref a1), (.ref a1)]))
  obtain ⟨T_1, X_1, e_1, st_1⟩ := getF X0 hx hZ hown (host := "") (Or.inl (own_w hw 104 rfl)) (Via.of (own_w hw 105 rfl)) e0 Fm (g := (mkF m 2 #[.val (.ref a1), .val (.ref x)] [(.ref a1), (.ref a1)])) rfl rfl (hb hby d15_2)
  refine own_via st_1 ?_
  show own_Go p e below _ (T_1.setTop (mkF m 5 #[.val (.ref a1), .val (.ref x)] [(.int (0 : Int32)), (.ref a1)]))
  refine own_via (fun _ => XS.iconst X_1.here hx rfl (hb hby d15_5)) ?_
  show own_Go p e below _ (T_1.setTop (mkF m 6 #[.val (.ref a1), .val (.ref x)] [(.int (1 : Int32)), (.int (0 : Int32)), (.ref a1)]))
  refine own_via (fun _ => XS.iadd X_1.here hx rfl (hb hby d15_6) rfl) ?_
  show own_Go p e below _ (T_1.setTop (mkF m 7 #[.val (.ref a1), .val (.ref x)] [(.int (1 : Int32)), (.ref a1)]))
  obtain ⟨T_2, h_2, X_2, e_2, W_2, st_2⟩ := putF X_1 hx hZ hown (host := "") (Or.inl (own_w hw 104 rfl)) (Via.of (own_w hw 105 rfl)) e_1 Fm E1 (Or.inl (own_w hw 75 rfl)) (own_w hw 56 rfl) (ty := .int) (by decide) rfl rfl (g := (mkF m 7 #[.val (.ref a1), .val (.ref x)] [(.int (1 : Int32)), (.ref a1)])) rfl rfl (hb hby d15_7)
  have F_3 : Fld Z h_2 a1 "java/util/ArrayList" "size" "I" (.int (0 : Int32)) := Fz.other W_2 (Or.inr (slot_ne (Or.inl (own_w hw 107 rfl)) (Or.inl (own_w hw 75 rfl)) (by decide) (t := .int) (t' := .int) (by decide) (by decide)))
  have F_4 : Fld Z h_2 a1 "java/util/ArrayList" "elementData" "[Ljava/lang/Object;" (.ref dc) := Fe.other W_2 (Or.inr (slot_ne (Or.inl (own_w hw 78 rfl)) (Or.inl (own_w hw 75 rfl)) (by decide) (t := (.array (.object "java/lang/Object"))) (t' := .int) (by decide) (by decide)))
  have F_5 : Fld Z h_2 a1 "java/util/AbstractList" "modCount" "I" (.int (1 : Int32)) := Fm.same W_2
  have N_2 := Fr.snoc X_2 N0 g1
  refine own_via st_2 ?_
  show own_Go p e below _ (T_2.setTop (mkF m 10 #[.val (.ref a1), .val (.ref x)] []))
  refine own_via (fun _ => XS.aloadN X_2.here hx rfl (hb hby d15_10) rfl rfl) ?_
  show own_Go p e below _ (T_2.setTop (mkF m 11 #[.val (.ref a1), .val (.ref x)] [(.ref a1)]))
  refine own_via (fun _ => XS.aloadN X_2.here hx rfl (hb hby d15_11) rfl rfl) ?_
  show own_Go p e below _ (T_2.setTop (mkF m 12 #[.val (.ref a1), .val (.ref x)] [(.ref x), (.ref a1)]))
  refine own_via (fun _ => XS.aloadN X_2.here hx rfl (hb hby d15_12) rfl rfl) ?_
  show own_Go p e below _ (T_2.setTop (mkF m 13 #[.val (.ref a1), .val (.ref x)] [(.ref a1), (.ref x), (.ref a1)]))
  obtain ⟨T_6, X_6, e_6, st_6⟩ := getF X_2 hx hZ hown (host := "") (Or.inl (own_w hw 77 rfl)) Via.refl e_2 F_4 (g := (mkF m 13 #[.val (.ref a1), .val (.ref x)] [(.ref a1), (.ref x), (.ref a1)])) rfl rfl (hb hby d15_13)
  refine own_via st_6 ?_
  show own_Go p e below _ (T_6.setTop (mkF m 16 #[.val (.ref a1), .val (.ref x)] [(.ref dc), (.ref x), (.ref a1)]))
  refine own_via (fun _ => XS.aloadN X_6.here hx rfl (hb hby d15_16) rfl rfl) ?_
  show own_Go p e below _ (T_6.setTop (mkF m 17 #[.val (.ref a1), .val (.ref x)] [(.ref a1), (.ref dc), (.ref x), (.ref a1)]))
  obtain ⟨T_7, X_7, e_7, st_7⟩ := getF X_6 hx hZ hown (host := "") (Or.inl (own_w hw 106 rfl)) Via.refl e_6 F_3 (g := (mkF m 17 #[.val (.ref a1), .val (.ref x)] [(.ref a1), (.ref dc), (.ref x), (.ref a1)])) rfl rfl (hb hby d15_17)
  refine own_via st_7 ?_
  show own_Go p e below _ (T_7.setTop (mkF m 20 #[.val (.ref a1), .val (.ref x)] [(.int (0 : Int32)), (.ref dc), (.ref x), (.ref a1)]))
  have K_8 : Keep h0 h_2 [a1] := Keep.wr (ws := [a1]) (own_keep_mono (Keep.refl h0 []) (by simp)) W_2 (Or.inl (List.mem_of_getElem? (i := 0) rfl))
  obtain ⟨cq_9, q_9, q_9'⟩ := (E1.keep K_8).cell
  obtain ⟨_, _, ⟨T_9, L_9, k_9, n_9⟩, -, X_9, ⟨Lc_9, hQ_9, l_9, y_9, z_9⟩, st_9⟩ := X_7.privateBack hx (y := (⟨"java/util/ArrayList", "add", "(Ljava/lang/Object;[Ljava/lang/Object;I)V"⟩ : MethodName)) hown (mvT hZ (own_w hw 108 rfl)) (mvT hZ (own_w hw 109 rfl)) (mvT hZ (own_w hw 111 rfl)) (Cond.privateMethod_at (mvP hZ (own_w hw 110 rfl) (args := #[]))) (mvT hZ (own_w hw 112 rfl)) (by decide) (backOf (W := 0) (rmhelpA l Z a0 hw [] a1 x (.int (1 : Int32)) dc kd h_2 n0 (Nat.le_trans Z0 K_8.1) (O0.keep K_8 (allS g1 all0)) (E1.keep K_8) F_5 F_3 F_4 g1 Sdc Adc (own_InsKeep Ix K_8)) hZ (own_w hw 112 rfl) (own_w hw 57 rfl) (by decide) (by decide)) (g := (mkF m 20 #[.val (.ref a1), .val (.ref x)] [(.int (0 : Int32)), (.ref dc), (.ref x), (.ref a1)])) rfl (by rw [hml]; rfl) (Steps.refl _) (a := a1) (by rw [e_7]; exact q_9) q_9' (argsL := [(.ref x), (.ref dc), (.int (0 : Int32))]) (rest := []) (lenOf pd_5 rfl) rfl (by show 2 * 0 + _ ≤ _; exact Nat.le_of_eq rfl) (hb hby d15_20) (fun _ _ => ⟨rfl, e_7, (by decide : 0 + 1 ≤ _), (by decide : 0 + 10 ≤ _)⟩)
  dsimp only [Pt.U, Pt.locs, Pt.cells, Pt.slots] at X_9 l_9 y_9 z_9 st_9 hQ_9
  subst l_9 y_9 z_9
  obtain ⟨r_10, u_11, rfl, Nq_9, K_9q, q_9_0, q_9_1, q_9_2, q_9_3, q_9_4, q_9_5⟩ := hQ_9
  have N_9 := Fr.app N_2 Nq_9
  refine own_via (fun _ k => st_9.trans k) ?_
  show own_Go p e below _ (T_9.setTop (mkF m 23 #[.val (.ref a1), .val (.ref x)] []))
  refine own_via (fun _ => XS.iconst X_9.here hx rfl (hb hby d15_23)) ?_
  show own_Go p e below _ (T_9.setTop (mkF m 24 #[.val (.ref a1), .val (.ref x)] [(.int (1 : Int32))]))
  have K_12 : Keep h0 T_9.heap [a1] := Keep.trans (ws := [a1]) K_8 K_9q (allS (Or.inl (List.mem_of_getElem? (i := 0) rfl)) all0)
  exact own_retv X_9 Bd.notSynchronized hx Bd.returns rfl (Or.inl ⟨rfl, (by simp), _, rfl⟩) (hb hby d15_24) (by decide) (by decide) ⟨r_10, u_11, rfl, N_9, K_12, (Nat.le_trans K_8.1 q_9_0), q_9_1, q_9_2, q_9_3, q_9_4, q_9_5⟩
theorem ef_addB (m : MethodId) (a1 : Addr) (x : Addr) : entryFrame m #[(.ref a1), (.ref x)] 2 = mkF m 0 #[.val (.ref a1), .val (.ref x)] [] := by first | (simp [entryFrame, mkF, argsToLocals, Value.category]; done) | rfl
def QaddB (Z : State) (a1 : Addr) (x : Addr) (mm : Int32) (ar : Addr) (k : ClassId) (vs : List Value) (n : Nat) (h0 : Heap) (n0 : Nat) (v : Option Value) (h : Heap) (L : List Loc) : Prop := v = some (.int (1 : Int32)) ∧ Fr n0 L ∧ Keep h0 h [a1, ar] ∧ (Arv Z h ar k (.object "java/lang/Object") (10 : Int32) (vs.set n (.ref x)) .null) ∧ (Fld Z h a1 "java/util/AbstractList" "modCount" "I" (.int (mm + (1 : Int32)))) ∧ (Fld Z h a1 "java/util/ArrayList" "size" "I" (.int (Int32.ofNat (n + 1)))) ∧ (Fld Z h a1 "java/util/ArrayList" "elementData" "[Ljava/lang/Object;" (.ref ar))
set_option maxRecDepth 65536 in
set_option maxHeartbeats 40000000 in
theorem rmaddB (l : Launch) (Z : State) (a0 : Array Value) (hw : ∀ d ∈ tables_1, d.before a0 Z = true) (ws : List Jvm.Cond) (a1 : Addr) (x : Addr) (mm : Int32) (ar : Addr) (k : ClassId) (vs : List Value) (n : Nat) (h0 : Heap) (n0 : Nat) (Z0 : n0 ≤ h0.size) (E1 : Exa Z h0 a1 "java/util/ArrayList") (Fm : Fld Z h0 a1 "java/util/AbstractList" "modCount" "I" (.int mm)) (Fz : Fld Z h0 a1 "java/util/ArrayList" "size" "I" (.int (Int32.ofNat n))) (Fe : Fld Z h0 a1 "java/util/ArrayList" "elementData" "[Ljava/lang/Object;" (.ref ar)) (g1 : n0 ≤ a1) (Aar : Arv Z h0 ar k (.object "java/lang/Object") (10 : Int32) vs .null) (Ok : Ovr Z k "java/lang/Object") (hv : vs.length = 10) (hn : n < 9) (ga : n0 ≤ ar) (nea : ar ≠ a1) (Ix : Ins Z h0 x "java/lang/Object" true) :
    MetFree l (⟨"java/util/ArrayList", "add", "(Ljava/lang/Object;)Z"⟩ : MethodName) (head1 (Jvm.Cond.code (⟨"java/util/ArrayList", "add", "(Ljava/lang/Object;)Z"⟩ : MethodName) jdk_38_method_25_code 2 (some .boolean) :: ws) ({ frames := 1, cells := 0, slots := 0, locals := 15 } : Room)) (fun a U => a = #[(.ref a1), (.ref x)] ∧ Z.Warmed39 U.vm ∧ U.heap = h0) (fun _ _ _ _ _ => True) (fun _ U o U' => ∃ v L, o = .returned v ∧ QaddB Z a1 x mm ar k vs n h0 n0 v U'.heap L ∧ FrameEnd U o U' L ({ frames := 1, cells := 0, slots := 0, locals := 15 } : Room).cells ({ frames := 1, cells := 0, slots := 0, locals := 15 } : Room).slots) := by
  refine MetFree.of_bodySF (plainFor_of_name pn_java_util_ArrayList) hisR ?_
  intro p e s m args below meth c s₁ Bd hml0 hP hK
  obtain ⟨rfl, hZ, hH0⟩ := hP
  have hx := Bd.exec
  have hby := Bd.bytes
  have hml : c.maxLocals = 2 := hml0
  have hown : s.vm.findClass "java/util/ArrayList" = some m.cls := findClass_of_methodNamed Bd.named
  have hnm := (name_of_methodNamed Bd.named Bd.method).1
  have X0 : Stand p l e ({ frames := 1, cells := 0, slots := 0, locals := 15 } : Room) s m #[(.ref a1), (.ref x)] below meth c s₁ [] 0 0 := Stand.of_body Bd
  have e0 : s₁.heap = h0 := by rw [← hH0, Bd.state]; rfl
  have N0 := Fr.nil n0
  refine own_cast (ef_addB m a1 x) ?_
  show own_Go p e below (fun o U' => ∃ v L, o = .returned v ∧ QaddB Z a1 x mm ar k vs n h0 n0 v U'.heap L ∧ FrameEnd s o U' L ({ frames := 1, cells := 0, slots := 0, locals := 15 } : Room).cells ({ frames := 1, cells := 0, slots := 0, locals := 15 } : Room).slots) (s₁.setTop (mkF m 0 #[.val (.ref a1), .val (.ref x)] []))
  refine own_via (fun _ => XS.aloadN X0.here hx rfl (hb hby d15_0) rfl rfl) ?_
  show own_Go p e below _ (s₁.setTop (mkF m 1 #[.val (.ref a1), .val (.ref x)] [(.ref a1)]))
  refine own_via (fun _ => XS.dup X0.here hx rfl (hb hby d15_1) rfl rfl) ?_
  show own_Go p e below _ (s₁.setTop (mkF m 2 #[.val (.ref a1), .val (.ref x)] [(.ref a1), (.ref a1)]))
  obtain ⟨T_1, X_1, e_1, st_1⟩ := getF X0 hx hZ hown (host := "") (Or.inl (own_w hw 104 rfl)) (Via.of (own_w hw 105 rfl)) e0 Fm (g := (mkF m 2 #[.val (.ref a1), .val (.ref x)] [(.ref a1), (.ref a1)])) rfl rfl (hb hby d15_2)
  refine own_via st_1 ?_
  show own_Go p e below _ (T_1.setTop (mkF m 5 #[.val (.ref a1), .val (.ref x)] [(.int mm), (.ref a1)]))
  refine own_via (fun _ => XS.iconst X_1.here hx rfl (hb hby d15_5)) ?_
  show own_Go p e below _ (T_1.setTop (mkF m 6 #[.val (.ref a1), .val (.ref x)] [(.int (1 : Int32)), (.int mm), (.ref a1)]))
  refine own_via (fun _ => XS.iadd X_1.here hx rfl (hb hby d15_6) rfl) ?_
  show own_Go p e below _ (T_1.setTop (mkF m 7 #[.val (.ref a1), .val (.ref x)] [(.int (mm + (1 : Int32))), (.ref a1)]))
  obtain ⟨T_2, h_2, X_2, e_2, W_2, st_2⟩ := putF X_1 hx hZ hown (host := "") (Or.inl (own_w hw 104 rfl)) (Via.of (own_w hw 105 rfl)) e_1 Fm E1 (Or.inl (own_w hw 75 rfl)) (own_w hw 56 rfl) (ty := .int) (by decide) rfl rfl (g := (mkF m 7 #[.val (.ref a1), .val (.ref x)] [(.int (mm + (1 : Int32))), (.ref a1)])) rfl rfl (hb hby d15_7)
  have F_3 : Fld Z h_2 a1 "java/util/ArrayList" "size" "I" (.int (Int32.ofNat n)) := Fz.other W_2 (Or.inr (slot_ne (Or.inl (own_w hw 107 rfl)) (Or.inl (own_w hw 75 rfl)) (by decide) (t := .int) (t' := .int) (by decide) (by decide)))
  have F_4 : Fld Z h_2 a1 "java/util/ArrayList" "elementData" "[Ljava/lang/Object;" (.ref ar) := Fe.other W_2 (Or.inr (slot_ne (Or.inl (own_w hw 78 rfl)) (Or.inl (own_w hw 75 rfl)) (by decide) (t := (.array (.object "java/lang/Object"))) (t' := .int) (by decide) (by decide)))
  have F_5 : Fld Z h_2 a1 "java/util/AbstractList" "modCount" "I" (.int (mm + (1 : Int32))) := Fm.same W_2
  have N_2 := Fr.snoc X_2 N0 g1
  refine own_via st_2 ?_
  show own_Go p e below _ (T_2.setTop (mkF m 10 #[.val (.ref a1), .val (.ref x)] []))
  refine own_via (fun _ => XS.aloadN X_2.here hx rfl (hb hby d15_10) rfl rfl) ?_
  show own_Go p e below _ (T_2.setTop (mkF m 11 #[.val (.ref a1), .val (.ref x)] [(.ref a1)]))
  refine own_via (fun _ => XS.aloadN X_2.here hx rfl (hb hby d15_11) rfl rfl) ?_
  show own_Go p e below _ (T_2.setTop (mkF m 12 #[.val (.ref a1), .val (.ref x)] [(.ref x), (.ref a1)]))
  refine own_via (fun _ => XS.aloadN X_2.here hx rfl (hb hby d15_12) rfl rfl) ?_
  show own_Go p e below _ (T_2.setTop (mkF m 13 #[.val (.ref a1), .val (.ref x)] [(.ref a1), (.ref x), (.ref a1)]))
  obtain ⟨T_6, X_6, e_6, st_6⟩ := getF X_2 hx hZ hown (host := "") (Or.inl (own_w hw 77 rfl)) Via.refl e_2 F_4 (g := (mkF m 13 #[.val (.ref a1), .val (.ref x)] [(.ref a1), (.ref x), (.ref a1)])) rfl rfl (hb hby d15_13)
  refine own_via st_6 ?_
  show own_Go p e below _ (T_6.setTop (mkF m 16 #[.val (.ref a1), .val (.ref x)] [(.ref ar), (.ref x), (.ref a1)]))
  refine own_via (fun _ => XS.aloadN X_6.here hx rfl (hb hby d15_16) rfl rfl) ?_
  show own_Go p e below _ (T_6.setTop (mkF m 17 #[.val (.ref a1), .val (.ref x)] [(.ref a1), (.ref ar), (.ref x), (.ref a1)]))
  obtain ⟨T_7, X_7, e_7, st_7⟩ := getF X_6 hx hZ hown (host := "") (Or.inl (own_w hw 106 rfl)) Via.refl e_6 F_3 (g := (mkF m 17 #[.val (.ref a1), .val (.ref x)] [(.ref a1), (.ref ar), (.ref x), (.ref a1)])) rfl rfl (hb hby d15_17)
  refine own_via st_7 ?_
  show own_Go p e below _ (T_7.setTop (mkF m 20 #[.val (.ref a1), .val (.ref x)] [(.int (Int32.ofNat n)), (.ref ar), (.ref x), (.ref a1)]))
  have K_8 : Keep h0 h_2 [a1] := Keep.wr (ws := [a1]) (own_keep_mono (Keep.refl h0 []) (by simp)) W_2 (Or.inl (List.mem_of_getElem? (i := 0) rfl))
  obtain ⟨cq_9, q_9, q_9'⟩ := (E1.keep K_8).cell
  obtain ⟨_, _, ⟨T_9, L_9, k_9, n_9⟩, -, X_9, ⟨Lc_9, hQ_9, l_9, y_9, z_9⟩, st_9⟩ := X_7.privateBack hx (y := (⟨"java/util/ArrayList", "add", "(Ljava/lang/Object;[Ljava/lang/Object;I)V"⟩ : MethodName)) hown (mvT hZ (own_w hw 108 rfl)) (mvT hZ (own_w hw 109 rfl)) (mvT hZ (own_w hw 111 rfl)) (Cond.privateMethod_at (mvP hZ (own_w hw 110 rfl) (args := #[]))) (mvT hZ (own_w hw 112 rfl)) (by decide) (backOf (W := 0) (rmhelpB l Z a0 hw [] a1 x (.int (mm + (1 : Int32))) ar k vs n h_2 n0 (Nat.le_trans Z0 K_8.1) (E1.keep K_8) F_5 F_3 F_4 g1 (Aar.keep K_8 (ninS nea nin0)) Ok hv hn ga nea (own_InsKeep Ix K_8)) hZ (own_w hw 112 rfl) (own_w hw 57 rfl) (by decide) (by decide)) (g := (mkF m 20 #[.val (.ref a1), .val (.ref x)] [(.int (Int32.ofNat n)), (.ref ar), (.ref x), (.ref a1)])) rfl (by rw [hml]; rfl) (Steps.refl _) (a := a1) (by rw [e_7]; exact q_9) q_9' (argsL := [(.ref x), (.ref ar), (.int (Int32.ofNat n))]) (rest := []) (lenOf pd_5 rfl) rfl (by show 2 * 0 + _ ≤ _; exact Nat.le_of_eq rfl) (hb hby d15_20) (fun _ _ => ⟨rfl, e_7, (by decide : 0 + 0 ≤ _), (by decide : 0 + 0 ≤ _)⟩)
  dsimp only [Pt.U, Pt.locs, Pt.cells, Pt.slots] at X_9 l_9 y_9 z_9 st_9 hQ_9
  subst l_9 y_9 z_9
  obtain ⟨rfl, Nq_9, K_9q, q_9_0, q_9_1, q_9_2, q_9_3⟩ := hQ_9
  have N_9 := Fr.app N_2 Nq_9
  refine own_via (fun _ k => st_9.trans k) ?_
  show own_Go p e below _ (T_9.setTop (mkF m 23 #[.val (.ref a1), .val (.ref x)] []))
  refine own_via (fun _ => XS.iconst X_9.here hx rfl (hb hby d15_23)) ?_
  show own_Go p e below _ (T_9.setTop (mkF m 24 #[.val (.ref a1), .val (.ref x)] [(.int (1 : Int32))]))
  have K_10 : Keep h0 T_9.heap [a1, ar] := Keep.trans (ws := [a1, ar]) (own_keep_mono K_8 (by simp)) K_9q (allS (Or.inl (List.mem_of_getElem? (i := 0) rfl)) (allS (Or.inl (List.mem_of_getElem? (i := 1) rfl)) all0))
  exact own_retv X_9 Bd.notSynchronized hx Bd.returns rfl (Or.inl ⟨rfl, (by simp), _, rfl⟩) (hb hby d15_24) (by decide) (by decide) ⟨rfl, N_9, K_10, q_9_0, q_9_1, q_9_2, q_9_3⟩
theorem d13_0 : decode prog_14_method_1_code 0 = .ok (.aload_n 0, 1) := by decide +kernel
theorem d13_1 : decode prog_14_method_1_code 1 = .ok (.invokespecial 1, 3) := by decide +kernel
theorem d13_4 : decode prog_14_method_1_code 4 = .ok (.aload_n 0, 1) := by decide +kernel
theorem d13_5 : decode prog_14_method_1_code 5 = .ok (.aload_n 1, 1) := by decide +kernel
theorem d13_6 : decode prog_14_method_1_code 6 = .ok (.putfield 7, 3) := by decide +kernel
theorem d13_9 : decode prog_14_method_1_code 9 = .ok (.aload_n 0, 1) := by decide +kernel
theorem d13_10 : decode prog_14_method_1_code 10 = .ok (.aload_n 2, 1) := by decide +kernel
theorem d13_11 : decode prog_14_method_1_code 11 = .ok (.putfield 13, 3) := by decide +kernel
theorem d13_14 : decode prog_14_method_1_code 14 = .ok (.return_, 1) := by decide +kernel
theorem pn_com_example_optimistik_optimistik_engine_CommitChecks_RowAt : plainName "com/example/optimistik/optimistik/engine/CommitChecks$RowAt" = true := by first | (simp [plainName, overriddenIn]; done) | decide +kernel
theorem ef_rowAt (m : MethodId) (a1 : Addr) (a3 : Addr) : entryFrame m #[(.ref a1), .null, (.ref a3)] 3 = mkF m 0 #[.val (.ref a1), .val .null, .val (.ref a3)] [] := by first | (simp [entryFrame, mkF, argsToLocals, Value.category]; done) | rfl
def QrowAt (Z : State) (a1 : Addr) (a3 : Addr) (h0 : Heap) (n0 : Nat) (v : Option Value) (h : Heap) (L : List Loc) : Prop := v = none ∧ Fr n0 L ∧ Keep h0 h [a1]
set_option maxRecDepth 65536 in
set_option maxHeartbeats 40000000 in
theorem rmrowAt (l : Launch) (Z : State) (a0 : Array Value) (hw : ∀ d ∈ tables_1, d.before a0 Z = true) (ws : List Jvm.Cond) (a1 : Addr) (a3 : Addr) (h0 : Heap) (n0 : Nat) (Z0 : n0 ≤ h0.size) (E1 : Exa Z h0 a1 "com/example/optimistik/optimistik/engine/CommitChecks$RowAt") (F1 : Fld Z h0 a1 "com/example/optimistik/optimistik/engine/CommitChecks$RowAt" "table" "Lcom/example/optimistik/optimistik/engine/EngineTable;" .null) (F2 : Fld Z h0 a1 "com/example/optimistik/optimistik/engine/CommitChecks$RowAt" "key" "Ljava/lang/Object;" .null) (g1 : n0 ≤ a1) :
    MetFree l (⟨"com/example/optimistik/optimistik/engine/CommitChecks$RowAt", "<init>", "(Lcom/example/optimistik/optimistik/engine/EngineTable;Ljava/lang/Object;)V"⟩ : MethodName) (head1 (Jvm.Cond.code (⟨"com/example/optimistik/optimistik/engine/CommitChecks$RowAt", "<init>", "(Lcom/example/optimistik/optimistik/engine/EngineTable;Ljava/lang/Object;)V"⟩ : MethodName) prog_14_method_1_code 3 none :: ws) ({ frames := 2, cells := 0, slots := 0, locals := 24 } : Room)) (fun a U => a = #[(.ref a1), .null, (.ref a3)] ∧ Z.Warmed39 U.vm ∧ U.heap = h0) (fun _ _ _ _ _ => True) (fun _ U o U' => ∃ v L, o = .returned v ∧ QrowAt Z a1 a3 h0 n0 v U'.heap L ∧ FrameEnd U o U' L ({ frames := 2, cells := 0, slots := 0, locals := 24 } : Room).cells ({ frames := 2, cells := 0, slots := 0, locals := 24 } : Room).slots) := by
  refine MetFree.of_bodySF (plainFor_of_name pn_com_example_optimistik_optimistik_engine_CommitChecks_RowAt) hisR ?_
  intro p e s m args below meth c s₁ Bd hml0 hP hK
  obtain ⟨rfl, hZ, hH0⟩ := hP
  have hx := Bd.exec
  have hby := Bd.bytes
  have hml : c.maxLocals = 3 := hml0
  have hown : s.vm.findClass "com/example/optimistik/optimistik/engine/CommitChecks$RowAt" = some m.cls := findClass_of_methodNamed Bd.named
  have hnm := (name_of_methodNamed Bd.named Bd.method).1
  have X0 : Stand p l e ({ frames := 2, cells := 0, slots := 0, locals := 24 } : Room) s m #[(.ref a1), .null, (.ref a3)] below meth c s₁ [] 0 0 := Stand.of_body Bd
  have e0 : s₁.heap = h0 := by rw [← hH0, Bd.state]; rfl
  have N0 := Fr.nil n0
  refine own_cast (ef_rowAt m a1 a3) ?_
  show own_Go p e below (fun o U' => ∃ v L, o = .returned v ∧ QrowAt Z a1 a3 h0 n0 v U'.heap L ∧ FrameEnd s o U' L ({ frames := 2, cells := 0, slots := 0, locals := 24 } : Room).cells ({ frames := 2, cells := 0, slots := 0, locals := 24 } : Room).slots) (s₁.setTop (mkF m 0 #[.val (.ref a1), .val .null, .val (.ref a3)] []))
  refine own_via (fun _ => XS.aloadN X0.here hx rfl (hb hby d13_0) rfl rfl) ?_
  show own_Go p e below _ (s₁.setTop (mkF m 1 #[.val (.ref a1), .val .null, .val (.ref a3)] [(.ref a1)]))
  obtain ⟨_, _, ⟨T_1, L_1, k_1, n_1⟩, -, X_1, ⟨Lc_1, hQ_1, l_1, y_1, z_1⟩, st_1⟩ := X0.specialBack hx (y := (⟨"java/lang/Record", "<init>", "()V"⟩ : MethodName)) rfl hown (mvT hZ (own_w hw 85 rfl)) (mvT hZ (own_w hw 86 rfl)) (mvT hZ (own_w hw 89 rfl)) (by decide) (backOf (W := 0) (rmrec l Z a0 hw [] a1 h0 n0 Z0 ) hZ (own_w hw 89 rfl) (own_w hw 88 rfl) (by decide) (by decide)) (g := (mkF m 1 #[.val (.ref a1), .val .null, .val (.ref a3)] [(.ref a1)])) rfl (by rw [hml]; rfl) (Steps.refl _) (a := a1) (argsL := []) (rest := []) (lenOf pd_0 rfl) rfl (by show 2 * 0 + _ ≤ _; exact Nat.le_of_eq rfl) (hb hby d13_1) (fun _ _ => ⟨rfl, e0, (by decide : 0 + 0 ≤ _), (by decide : 0 + 0 ≤ _)⟩)
  dsimp only [Pt.U, Pt.locs, Pt.cells, Pt.slots] at X_1 l_1 y_1 z_1 st_1 hQ_1
  subst l_1 y_1 z_1
  obtain ⟨rfl, Nq_1, K_1q⟩ := hQ_1
  have N_1 := Fr.app N0 Nq_1
  refine own_via (fun _ k => st_1.trans k) ?_
  show own_Go p e below _ (T_1.setTop (mkF m 4 #[.val (.ref a1), .val .null, .val (.ref a3)] []))
  refine own_via (fun _ => XS.aloadN X_1.here hx rfl (hb hby d13_4) rfl rfl) ?_
  show own_Go p e below _ (T_1.setTop (mkF m 5 #[.val (.ref a1), .val .null, .val (.ref a3)] [(.ref a1)]))
  refine own_via (fun _ => XS.aloadN X_1.here hx rfl (hb hby d13_5) rfl rfl) ?_
  show own_Go p e below _ (T_1.setTop (mkF m 6 #[.val (.ref a1), .val .null, .val (.ref a3)] [.null, (.ref a1)]))
  have K_2 : Keep h0 T_1.heap [] := Keep.trans (ws := []) (Keep.refl h0 []) K_1q all0
  obtain ⟨T_3, h_3, X_3, e_3, W_3, st_3⟩ := putF X_1 hx hZ hown (host := "") (Or.inl (own_w hw 91 rfl)) Via.refl rfl (F1.keep K_2 nin0) (E1.keep K_2) (Or.inr ⟨(own_w hw 92 rfl), rfl, hnm⟩) (own_w hw 80 rfl) (ty := (.object "com/example/optimistik/optimistik/engine/EngineTable")) (by decide) rfl rfl (g := (mkF m 6 #[.val (.ref a1), .val .null, .val (.ref a3)] [.null, (.ref a1)])) rfl rfl (hb hby d13_6)
  have F_4 : Fld Z h_3 a1 "com/example/optimistik/optimistik/engine/CommitChecks$RowAt" "key" "Ljava/lang/Object;" .null := (F2.keep K_2 nin0).other W_3 (Or.inr (slot_ne (Or.inr (own_w hw 94 rfl)) (Or.inr (own_w hw 92 rfl)) (by decide) (t := (.object "java/lang/Object")) (t' := (.object "com/example/optimistik/optimistik/engine/EngineTable")) (by decide) (by decide)))
  have F_5 : Fld Z h_3 a1 "com/example/optimistik/optimistik/engine/CommitChecks$RowAt" "table" "Lcom/example/optimistik/optimistik/engine/EngineTable;" .null := (F1.keep K_2 nin0).same W_3
  have N_3 := Fr.snoc X_3 N_1 g1
  refine own_via st_3 ?_
  show own_Go p e below _ (T_3.setTop (mkF m 9 #[.val (.ref a1), .val .null, .val (.ref a3)] []))
  refine own_via (fun _ => XS.aloadN X_3.here hx rfl (hb hby d13_9) rfl rfl) ?_
  show own_Go p e below _ (T_3.setTop (mkF m 10 #[.val (.ref a1), .val .null, .val (.ref a3)] [(.ref a1)]))
  refine own_via (fun _ => XS.aloadN X_3.here hx rfl (hb hby d13_10) rfl rfl) ?_
  show own_Go p e below _ (T_3.setTop (mkF m 11 #[.val (.ref a1), .val .null, .val (.ref a3)] [(.ref a3), (.ref a1)]))
  have K_6 : Keep h0 h_3 [a1] := Keep.wr (ws := [a1]) (own_keep_mono K_2 (by simp)) W_3 (Or.inl (List.mem_of_getElem? (i := 0) rfl))
  obtain ⟨T_7, h_7, X_7, e_7, W_7, st_7⟩ := putF X_3 hx hZ hown (host := "") (Or.inl (own_w hw 93 rfl)) Via.refl e_3 F_4 (E1.keep K_6) (Or.inr ⟨(own_w hw 94 rfl), rfl, hnm⟩) (own_w hw 80 rfl) (ty := (.object "java/lang/Object")) (by decide) rfl rfl (g := (mkF m 11 #[.val (.ref a1), .val .null, .val (.ref a3)] [(.ref a3), (.ref a1)])) rfl rfl (hb hby d13_11)
  have F_8 : Fld Z h_7 a1 "com/example/optimistik/optimistik/engine/CommitChecks$RowAt" "table" "Lcom/example/optimistik/optimistik/engine/EngineTable;" .null := F_5.other W_7 (Or.inr (slot_ne (Or.inr (own_w hw 92 rfl)) (Or.inr (own_w hw 94 rfl)) (by decide) (t := (.object "com/example/optimistik/optimistik/engine/EngineTable")) (t' := (.object "java/lang/Object")) (by decide) (by decide)))
  have F_9 : Fld Z h_7 a1 "com/example/optimistik/optimistik/engine/CommitChecks$RowAt" "key" "Ljava/lang/Object;" (.ref a3) := F_4.same W_7
  have N_7 := Fr.snoc X_7 N_3 g1
  refine own_via st_7 ?_
  show own_Go p e below _ (T_7.setTop (mkF m 14 #[.val (.ref a1), .val .null, .val (.ref a3)] []))
  have K_10 : Keep h0 h_7 [a1] := Keep.wr (ws := [a1]) K_6 W_7 (Or.inl (List.mem_of_getElem? (i := 0) rfl))
  exact own_ret0 X_7 Bd.notSynchronized hx Bd.returns (hb hby d13_14) (by decide) (by decide) (by rw [e_7]; exact ⟨rfl, N_7, K_10⟩)
theorem d28_0 : decode prog_13_method_1_code 0 = .ok (.aload_n 0, 1) := by decide +kernel
theorem d28_1 : decode prog_13_method_1_code 1 = .ok (.invokespecial 1, 3) := by decide +kernel
theorem d28_4 : decode prog_13_method_1_code 4 = .ok (.aload_n 0, 1) := by decide +kernel
theorem d28_5 : decode prog_13_method_1_code 5 = .ok (.aload_n 1, 1) := by decide +kernel
theorem d28_6 : decode prog_13_method_1_code 6 = .ok (.putfield 7, 3) := by decide +kernel
theorem d28_9 : decode prog_13_method_1_code 9 = .ok (.aload_n 0, 1) := by decide +kernel
theorem d28_10 : decode prog_13_method_1_code 10 = .ok (.aload_n 2, 1) := by decide +kernel
theorem d28_11 : decode prog_13_method_1_code 11 = .ok (.putfield 13, 3) := by decide +kernel
theorem d28_14 : decode prog_13_method_1_code 14 = .ok (.aload_n 0, 1) := by decide +kernel
theorem d28_15 : decode prog_13_method_1_code 15 = .ok (.aload_n 3, 1) := by decide +kernel
theorem d28_16 : decode prog_13_method_1_code 16 = .ok (.putfield 17, 3) := by decide +kernel
theorem d28_19 : decode prog_13_method_1_code 19 = .ok (.return_, 1) := by decide +kernel
theorem pn_com_example_optimistik_optimistik_engine_CommitChecks_RangeRead : plainName "com/example/optimistik/optimistik/engine/CommitChecks$RangeRead" = true := by first | (simp [plainName, overriddenIn]; done) | decide +kernel
theorem ef_range (m : MethodId) (a1 : Addr) : entryFrame m #[(.ref a1), .null, .null, .null] 4 = mkF m 0 #[.val (.ref a1), .val .null, .val .null, .val .null] [] := by first | (simp [entryFrame, mkF, argsToLocals, Value.category]; done) | rfl
def Qrange (Z : State) (a1 : Addr) (h0 : Heap) (n0 : Nat) (v : Option Value) (h : Heap) (L : List Loc) : Prop := v = none ∧ Fr n0 L ∧ Keep h0 h [a1]
set_option maxRecDepth 65536 in
set_option maxHeartbeats 40000000 in
theorem rmrange (l : Launch) (Z : State) (a0 : Array Value) (hw : ∀ d ∈ tables_1, d.before a0 Z = true) (ws : List Jvm.Cond) (a1 : Addr) (h0 : Heap) (n0 : Nat) (Z0 : n0 ≤ h0.size) (E1 : Exa Z h0 a1 "com/example/optimistik/optimistik/engine/CommitChecks$RangeRead") (F1 : Fld Z h0 a1 "com/example/optimistik/optimistik/engine/CommitChecks$RangeRead" "table" "Lcom/example/optimistik/optimistik/engine/EngineTable;" .null) (F2 : Fld Z h0 a1 "com/example/optimistik/optimistik/engine/CommitChecks$RangeRead" "range" "Lcom/example/optimistik/optimistik/model/KeyRange;" .null) (F3 : Fld Z h0 a1 "com/example/optimistik/optimistik/engine/CommitChecks$RangeRead" "filter" "Ljava/util/function/Predicate;" .null) (g1 : n0 ≤ a1) :
    MetFree l (⟨"com/example/optimistik/optimistik/engine/CommitChecks$RangeRead", "<init>", "(Lcom/example/optimistik/optimistik/engine/EngineTable;Lcom/example/optimistik/optimistik/model/KeyRange;Ljava/util/function/Predicate;)V"⟩ : MethodName) (head1 (Jvm.Cond.code (⟨"com/example/optimistik/optimistik/engine/CommitChecks$RangeRead", "<init>", "(Lcom/example/optimistik/optimistik/engine/EngineTable;Lcom/example/optimistik/optimistik/model/KeyRange;Ljava/util/function/Predicate;)V"⟩ : MethodName) prog_13_method_1_code 4 none :: ws) ({ frames := 2, cells := 0, slots := 0, locals := 24 } : Room)) (fun a U => a = #[(.ref a1), .null, .null, .null] ∧ Z.Warmed39 U.vm ∧ U.heap = h0) (fun _ _ _ _ _ => True) (fun _ U o U' => ∃ v L, o = .returned v ∧ Qrange Z a1 h0 n0 v U'.heap L ∧ FrameEnd U o U' L ({ frames := 2, cells := 0, slots := 0, locals := 24 } : Room).cells ({ frames := 2, cells := 0, slots := 0, locals := 24 } : Room).slots) := by
  refine MetFree.of_bodySF (plainFor_of_name pn_com_example_optimistik_optimistik_engine_CommitChecks_RangeRead) hisR ?_
  intro p e s m args below meth c s₁ Bd hml0 hP hK
  obtain ⟨rfl, hZ, hH0⟩ := hP
  have hx := Bd.exec
  have hby := Bd.bytes
  have hml : c.maxLocals = 4 := hml0
  have hown : s.vm.findClass "com/example/optimistik/optimistik/engine/CommitChecks$RangeRead" = some m.cls := findClass_of_methodNamed Bd.named
  have hnm := (name_of_methodNamed Bd.named Bd.method).1
  have X0 : Stand p l e ({ frames := 2, cells := 0, slots := 0, locals := 24 } : Room) s m #[(.ref a1), .null, .null, .null] below meth c s₁ [] 0 0 := Stand.of_body Bd
  have e0 : s₁.heap = h0 := by rw [← hH0, Bd.state]; rfl
  have N0 := Fr.nil n0
  refine own_cast (ef_range m a1) ?_
  show own_Go p e below (fun o U' => ∃ v L, o = .returned v ∧ Qrange Z a1 h0 n0 v U'.heap L ∧ FrameEnd s o U' L ({ frames := 2, cells := 0, slots := 0, locals := 24 } : Room).cells ({ frames := 2, cells := 0, slots := 0, locals := 24 } : Room).slots) (s₁.setTop (mkF m 0 #[.val (.ref a1), .val .null, .val .null, .val .null] []))
  refine own_via (fun _ => XS.aloadN X0.here hx rfl (hb hby d28_0) rfl rfl) ?_
  show own_Go p e below _ (s₁.setTop (mkF m 1 #[.val (.ref a1), .val .null, .val .null, .val .null] [(.ref a1)]))
  obtain ⟨_, _, ⟨T_1, L_1, k_1, n_1⟩, -, X_1, ⟨Lc_1, hQ_1, l_1, y_1, z_1⟩, st_1⟩ := X0.specialBack hx (y := (⟨"java/lang/Record", "<init>", "()V"⟩ : MethodName)) rfl hown (mvT hZ (own_w hw 197 rfl)) (mvT hZ (own_w hw 86 rfl)) (mvT hZ (own_w hw 89 rfl)) (by decide) (backOf (W := 0) (rmrec l Z a0 hw [] a1 h0 n0 Z0 ) hZ (own_w hw 89 rfl) (own_w hw 88 rfl) (by decide) (by decide)) (g := (mkF m 1 #[.val (.ref a1), .val .null, .val .null, .val .null] [(.ref a1)])) rfl (by rw [hml]; rfl) (Steps.refl _) (a := a1) (argsL := []) (rest := []) (lenOf pd_0 rfl) rfl (by show 2 * 0 + _ ≤ _; exact Nat.le_of_eq rfl) (hb hby d28_1) (fun _ _ => ⟨rfl, e0, (by decide : 0 + 0 ≤ _), (by decide : 0 + 0 ≤ _)⟩)
  dsimp only [Pt.U, Pt.locs, Pt.cells, Pt.slots] at X_1 l_1 y_1 z_1 st_1 hQ_1
  subst l_1 y_1 z_1
  obtain ⟨rfl, Nq_1, K_1q⟩ := hQ_1
  have N_1 := Fr.app N0 Nq_1
  refine own_via (fun _ k => st_1.trans k) ?_
  show own_Go p e below _ (T_1.setTop (mkF m 4 #[.val (.ref a1), .val .null, .val .null, .val .null] []))
  refine own_via (fun _ => XS.aloadN X_1.here hx rfl (hb hby d28_4) rfl rfl) ?_
  show own_Go p e below _ (T_1.setTop (mkF m 5 #[.val (.ref a1), .val .null, .val .null, .val .null] [(.ref a1)]))
  refine own_via (fun _ => XS.aloadN X_1.here hx rfl (hb hby d28_5) rfl rfl) ?_
  show own_Go p e below _ (T_1.setTop (mkF m 6 #[.val (.ref a1), .val .null, .val .null, .val .null] [.null, (.ref a1)]))
  have K_2 : Keep h0 T_1.heap [] := Keep.trans (ws := []) (Keep.refl h0 []) K_1q all0
  obtain ⟨T_3, h_3, X_3, e_3, W_3, st_3⟩ := putF X_1 hx hZ hown (host := "") (Or.inl (own_w hw 198 rfl)) Via.refl rfl (F1.keep K_2 nin0) (E1.keep K_2) (Or.inr ⟨(own_w hw 199 rfl), rfl, hnm⟩) (own_w hw 192 rfl) (ty := (.object "com/example/optimistik/optimistik/engine/EngineTable")) (by decide) rfl rfl (g := (mkF m 6 #[.val (.ref a1), .val .null, .val .null, .val .null] [.null, (.ref a1)])) rfl rfl (hb hby d28_6)
  have F_4 : Fld Z h_3 a1 "com/example/optimistik/optimistik/engine/CommitChecks$RangeRead" "range" "Lcom/example/optimistik/optimistik/model/KeyRange;" .null := (F2.keep K_2 nin0).other W_3 (Or.inr (slot_ne (Or.inr (own_w hw 201 rfl)) (Or.inr (own_w hw 199 rfl)) (by decide) (t := (.object "com/example/optimistik/optimistik/model/KeyRange")) (t' := (.object "com/example/optimistik/optimistik/engine/EngineTable")) (by decide) (by decide)))
  have F_5 : Fld Z h_3 a1 "com/example/optimistik/optimistik/engine/CommitChecks$RangeRead" "filter" "Ljava/util/function/Predicate;" .null := (F3.keep K_2 nin0).other W_3 (Or.inr (slot_ne (Or.inr (own_w hw 203 rfl)) (Or.inr (own_w hw 199 rfl)) (by decide) (t := (.object "java/util/function/Predicate")) (t' := (.object "com/example/optimistik/optimistik/engine/EngineTable")) (by decide) (by decide)))
  have F_6 : Fld Z h_3 a1 "com/example/optimistik/optimistik/engine/CommitChecks$RangeRead" "table" "Lcom/example/optimistik/optimistik/engine/EngineTable;" .null := (F1.keep K_2 nin0).same W_3
  have N_3 := Fr.snoc X_3 N_1 g1
  refine own_via st_3 ?_
  show own_Go p e below _ (T_3.setTop (mkF m 9 #[.val (.ref a1), .val .null, .val .null, .val .null] []))
  refine own_via (fun _ => XS.aloadN X_3.here hx rfl (hb hby d28_9) rfl rfl) ?_
  show own_Go p e below _ (T_3.setTop (mkF m 10 #[.val (.ref a1), .val .null, .val .null, .val .null] [(.ref a1)]))
  refine own_via (fun _ => XS.aloadN X_3.here hx rfl (hb hby d28_10) rfl rfl) ?_
  show own_Go p e below _ (T_3.setTop (mkF m 11 #[.val (.ref a1), .val .null, .val .null, .val .null] [.null, (.ref a1)]))
  have K_7 : Keep h0 h_3 [a1] := Keep.wr (ws := [a1]) (own_keep_mono K_2 (by simp)) W_3 (Or.inl (List.mem_of_getElem? (i := 0) rfl))
  obtain ⟨T_8, h_8, X_8, e_8, W_8, st_8⟩ := putF X_3 hx hZ hown (host := "") (Or.inl (own_w hw 200 rfl)) Via.refl e_3 F_4 (E1.keep K_7) (Or.inr ⟨(own_w hw 201 rfl), rfl, hnm⟩) (own_w hw 192 rfl) (ty := (.object "com/example/optimistik/optimistik/model/KeyRange")) (by decide) rfl rfl (g := (mkF m 11 #[.val (.ref a1), .val .null, .val .null, .val .null] [.null, (.ref a1)])) rfl rfl (hb hby d28_11)
  have F_9 : Fld Z h_8 a1 "com/example/optimistik/optimistik/engine/CommitChecks$RangeRead" "filter" "Ljava/util/function/Predicate;" .null := F_5.other W_8 (Or.inr (slot_ne (Or.inr (own_w hw 203 rfl)) (Or.inr (own_w hw 201 rfl)) (by decide) (t := (.object "java/util/function/Predicate")) (t' := (.object "com/example/optimistik/optimistik/model/KeyRange")) (by decide) (by decide)))
  have F_10 : Fld Z h_8 a1 "com/example/optimistik/optimistik/engine/CommitChecks$RangeRead" "table" "Lcom/example/optimistik/optimistik/engine/EngineTable;" .null := F_6.other W_8 (Or.inr (slot_ne (Or.inr (own_w hw 199 rfl)) (Or.inr (own_w hw 201 rfl)) (by decide) (t := (.object "com/example/optimistik/optimistik/engine/EngineTable")) (t' := (.object "com/example/optimistik/optimistik/model/KeyRange")) (by decide) (by decide)))
  have F_11 : Fld Z h_8 a1 "com/example/optimistik/optimistik/engine/CommitChecks$RangeRead" "range" "Lcom/example/optimistik/optimistik/model/KeyRange;" .null := F_4.same W_8
  have N_8 := Fr.snoc X_8 N_3 g1
  refine own_via st_8 ?_
  show own_Go p e below _ (T_8.setTop (mkF m 14 #[.val (.ref a1), .val .null, .val .null, .val .null] []))
  refine own_via (fun _ => XS.aloadN X_8.here hx rfl (hb hby d28_14) rfl rfl) ?_
  show own_Go p e below _ (T_8.setTop (mkF m 15 #[.val (.ref a1), .val .null, .val .null, .val .null] [(.ref a1)]))
  refine own_via (fun _ => XS.aloadN X_8.here hx rfl (hb hby d28_15) rfl rfl) ?_
  show own_Go p e below _ (T_8.setTop (mkF m 16 #[.val (.ref a1), .val .null, .val .null, .val .null] [.null, (.ref a1)]))
  have K_12 : Keep h0 h_8 [a1] := Keep.wr (ws := [a1]) K_7 W_8 (Or.inl (List.mem_of_getElem? (i := 0) rfl))
  obtain ⟨T_13, h_13, X_13, e_13, W_13, st_13⟩ := putF X_8 hx hZ hown (host := "") (Or.inl (own_w hw 202 rfl)) Via.refl e_8 F_9 (E1.keep K_12) (Or.inr ⟨(own_w hw 203 rfl), rfl, hnm⟩) (own_w hw 192 rfl) (ty := (.object "java/util/function/Predicate")) (by decide) rfl rfl (g := (mkF m 16 #[.val (.ref a1), .val .null, .val .null, .val .null] [.null, (.ref a1)])) rfl rfl (hb hby d28_16)
  have F_14 : Fld Z h_13 a1 "com/example/optimistik/optimistik/engine/CommitChecks$RangeRead" "table" "Lcom/example/optimistik/optimistik/engine/EngineTable;" .null := F_10.other W_13 (Or.inr (slot_ne (Or.inr (own_w hw 199 rfl)) (Or.inr (own_w hw 203 rfl)) (by decide) (t := (.object "com/example/optimistik/optimistik/engine/EngineTable")) (t' := (.object "java/util/function/Predicate")) (by decide) (by decide)))
  have F_15 : Fld Z h_13 a1 "com/example/optimistik/optimistik/engine/CommitChecks$RangeRead" "range" "Lcom/example/optimistik/optimistik/model/KeyRange;" .null := F_11.other W_13 (Or.inr (slot_ne (Or.inr (own_w hw 201 rfl)) (Or.inr (own_w hw 203 rfl)) (by decide) (t := (.object "com/example/optimistik/optimistik/model/KeyRange")) (t' := (.object "java/util/function/Predicate")) (by decide) (by decide)))
  have F_16 : Fld Z h_13 a1 "com/example/optimistik/optimistik/engine/CommitChecks$RangeRead" "filter" "Ljava/util/function/Predicate;" .null := F_9.same W_13
  have N_13 := Fr.snoc X_13 N_8 g1
  refine own_via st_13 ?_
  show own_Go p e below _ (T_13.setTop (mkF m 19 #[.val (.ref a1), .val .null, .val .null, .val .null] []))
  have K_17 : Keep h0 h_13 [a1] := Keep.wr (ws := [a1]) K_12 W_13 (Or.inl (List.mem_of_getElem? (i := 0) rfl))
  exact own_ret0 X_13 Bd.notSynchronized hx Bd.returns (hb hby d28_19) (by decide) (by decide) (by rw [e_13]; exact ⟨rfl, N_13, K_17⟩)
theorem d24_0 : decode prog_24_method_1_code 0 = .ok (.aload_n 0, 1) := by decide +kernel
theorem d24_1 : decode prog_24_method_1_code 1 = .ok (.invokespecial 1, 3) := by decide +kernel
theorem d24_4 : decode prog_24_method_1_code 4 = .ok (.aload_n 0, 1) := by decide +kernel
theorem d24_5 : decode prog_24_method_1_code 5 = .ok (.iconst 2, 1) := by decide +kernel
theorem d24_6 : decode prog_24_method_1_code 6 = .ok (.anewarray 2, 3) := by decide +kernel
theorem d24_9 : decode prog_24_method_1_code 9 = .ok (.putfield 7, 3) := by decide +kernel
theorem d24_12 : decode prog_24_method_1_code 12 = .ok (.aload_n 0, 1) := by decide +kernel
theorem d24_13 : decode prog_24_method_1_code 13 = .ok (.aload_n 1, 1) := by decide +kernel
theorem d24_14 : decode prog_24_method_1_code 14 = .ok (.putfield 13, 3) := by decide +kernel
theorem d24_17 : decode prog_24_method_1_code 17 = .ok (.return_, 1) := by decide +kernel
theorem pn_com_example_optimistik_optimistik_engine_IdentitySet : plainName "com/example/optimistik/optimistik/engine/IdentitySet" = true := by first | (simp [plainName, overriddenIn]; done) | decide +kernel
theorem ef_isInit (m : MethodId) (a1 : Addr) (a2 : Addr) : entryFrame m #[(.ref a1), (.ref a2)] 2 = mkF m 0 #[.val (.ref a1), .val (.ref a2)] [] := by first | (simp [entryFrame, mkF, argsToLocals, Value.category]; done) | rfl
def QisInit (Z : State) (a1 : Addr) (a2 : Addr) (h0 : Heap) (n0 : Nat) (v : Option Value) (h : Heap) (L : List Loc) : Prop := ∃ r : Addr, ∃ k : ClassId, v = none ∧ Fr n0 L ∧ Keep h0 h [a1] ∧ (h0.size ≤ r) ∧ (Arv Z h r k (.object "java/lang/Object") (2 : Int32) [.null, .null] .null) ∧ (Fld Z h a1 "com/example/optimistik/optimistik/engine/IdentitySet" "elements" "[Ljava/lang/Object;" (.ref r)) ∧ (Fld Z h a1 "com/example/optimistik/optimistik/engine/IdentitySet" "slots" "[I" .null) ∧ (Fld Z h a1 "com/example/optimistik/optimistik/engine/IdentitySet" "count" "I" (.int (0 : Int32)))
set_option maxRecDepth 65536 in
set_option maxHeartbeats 40000000 in
theorem rmisInit (l : Launch) (Z : State) (a0 : Array Value) (hw : ∀ d ∈ tables_1, d.before a0 Z = true) (ws : List Jvm.Cond) (a1 : Addr) (a2 : Addr) (h0 : Heap) (n0 : Nat) (Z0 : n0 ≤ h0.size) (E1 : Exa Z h0 a1 "com/example/optimistik/optimistik/engine/IdentitySet") (F1 : Fld Z h0 a1 "com/example/optimistik/optimistik/engine/IdentitySet" "elements" "[Ljava/lang/Object;" .null) (F2 : Fld Z h0 a1 "com/example/optimistik/optimistik/engine/IdentitySet" "hasher" "Ljava/util/function/ToIntFunction;" .null) (F3 : Fld Z h0 a1 "com/example/optimistik/optimistik/engine/IdentitySet" "slots" "[I" .null) (F4 : Fld Z h0 a1 "com/example/optimistik/optimistik/engine/IdentitySet" "count" "I" (.int (0 : Int32))) (g1 : n0 ≤ a1) :
    MetFree l (⟨"com/example/optimistik/optimistik/engine/IdentitySet", "<init>", "(Ljava/util/function/ToIntFunction;)V"⟩ : MethodName) (head1 (Jvm.Cond.code (⟨"com/example/optimistik/optimistik/engine/IdentitySet", "<init>", "(Ljava/util/function/ToIntFunction;)V"⟩ : MethodName) prog_24_method_1_code 2 none :: ws) ({ frames := 1, cells := 1, slots := 2, locals := 15 } : Room)) (fun a U => a = #[(.ref a1), (.ref a2)] ∧ Z.Warmed39 U.vm ∧ U.heap = h0) (fun _ _ _ _ _ => True) (fun _ U o U' => ∃ v L, o = .returned v ∧ QisInit Z a1 a2 h0 n0 v U'.heap L ∧ FrameEnd U o U' L ({ frames := 1, cells := 1, slots := 2, locals := 15 } : Room).cells ({ frames := 1, cells := 1, slots := 2, locals := 15 } : Room).slots) := by
  refine MetFree.of_bodySF (plainFor_of_name pn_com_example_optimistik_optimistik_engine_IdentitySet) hisR ?_
  intro p e s m args below meth c s₁ Bd hml0 hP hK
  obtain ⟨rfl, hZ, hH0⟩ := hP
  have hx := Bd.exec
  have hby := Bd.bytes
  have hml : c.maxLocals = 2 := hml0
  have hown : s.vm.findClass "com/example/optimistik/optimistik/engine/IdentitySet" = some m.cls := findClass_of_methodNamed Bd.named
  have hnm := (name_of_methodNamed Bd.named Bd.method).1
  have X0 : Stand p l e ({ frames := 1, cells := 1, slots := 2, locals := 15 } : Room) s m #[(.ref a1), (.ref a2)] below meth c s₁ [] 0 0 := Stand.of_body Bd
  have e0 : s₁.heap = h0 := by rw [← hH0, Bd.state]; rfl
  have N0 := Fr.nil n0
  refine own_cast (ef_isInit m a1 a2) ?_
  show own_Go p e below (fun o U' => ∃ v L, o = .returned v ∧ QisInit Z a1 a2 h0 n0 v U'.heap L ∧ FrameEnd s o U' L ({ frames := 1, cells := 1, slots := 2, locals := 15 } : Room).cells ({ frames := 1, cells := 1, slots := 2, locals := 15 } : Room).slots) (s₁.setTop (mkF m 0 #[.val (.ref a1), .val (.ref a2)] []))
  refine own_via (fun _ => XS.aloadN X0.here hx rfl (hb hby d24_0) rfl rfl) ?_
  show own_Go p e below _ (s₁.setTop (mkF m 1 #[.val (.ref a1), .val (.ref a2)] [(.ref a1)]))
  obtain ⟨T_1, X_1, e_1, st_1⟩ := initO X0 hx hZ hown (own_w hw 167 rfl) (own_w hw 7 rfl) (own_w hw 8 rfl) e0 (g := (mkF m 1 #[.val (.ref a1), .val (.ref a2)] [(.ref a1)])) rfl (by rw [hml]; rfl) rfl (hb hby d24_1) (by decide) (W := 0) (by show 2 * 0 + _ ≤ _; exact Nat.le_of_eq rfl) (by decide)
  refine own_via st_1 ?_
  show own_Go p e below _ (T_1.setTop (mkF m 4 #[.val (.ref a1), .val (.ref a2)] []))
  refine own_via (fun _ => XS.aloadN X_1.here hx rfl (hb hby d24_4) rfl rfl) ?_
  show own_Go p e below _ (T_1.setTop (mkF m 5 #[.val (.ref a1), .val (.ref a2)] [(.ref a1)]))
  refine own_via (fun _ => XS.iconst X_1.here hx rfl (hb hby d24_5)) ?_
  show own_Go p e below _ (T_1.setTop (mkF m 6 #[.val (.ref a1), .val (.ref a2)] [(.int (2 : Int32)), (.ref a1)]))
  obtain ⟨T_2, h_2, k_2, X_2, e_2, E_2, A_2, O_2, st_2⟩ := newR X_1 hx hZ hown (own_w hw 168 rfl) (own_w hw 128 rfl) e_1 (g := (mkF m 6 #[.val (.ref a1), .val (.ref a2)] [(.int (2 : Int32)), (.ref a1)])) rfl (hb hby d24_6) rfl (by decide) (cap := 2) (by decide) (by decide) (by decide) (by decide)
  obtain ⟨b_2, g_2⟩ : ∃ z, z = h0.size := ⟨_, rfl⟩
  rw [← g_2] at A_2 st_2
  have V_2 : Arv Z h_2 b_2 k_2 (.object "java/lang/Object") (2 : Int32) [.null, .null] .null := (Arv.new A_2 (by decide)).pad (pad_rep [] .null 2)
  refine own_via st_2 ?_
  show own_Go p e below _ (T_2.setTop (mkF m 9 #[.val (.ref a1), .val (.ref a2)] [(.ref b_2), (.ref a1)]))
  have K_3 : Keep h0 h_2 [] := (Keep.refl h0 []).ext E_2
  obtain ⟨T_4, h_4, X_4, e_4, W_4, st_4⟩ := putF X_2 hx hZ hown (host := "") (Or.inl (own_w hw 169 rfl)) Via.refl e_2 (F1.keep K_3 nin0) (E1.keep K_3) (Or.inl (own_w hw 170 rfl)) (own_w hw 159 rfl) (ty := (.array (.object "java/lang/Object"))) (by decide) rfl rfl (g := (mkF m 9 #[.val (.ref a1), .val (.ref a2)] [(.ref b_2), (.ref a1)])) rfl rfl (hb hby d24_9)
  have F_5 : Fld Z h_4 a1 "com/example/optimistik/optimistik/engine/IdentitySet" "hasher" "Ljava/util/function/ToIntFunction;" .null := (F2.keep K_3 nin0).other W_4 (Or.inr (slot_ne (Or.inr (own_w hw 172 rfl)) (Or.inl (own_w hw 170 rfl)) (by decide) (t := (.object "java/util/function/ToIntFunction")) (t' := (.array (.object "java/lang/Object"))) (by decide) (by decide)))
  have F_6 : Fld Z h_4 a1 "com/example/optimistik/optimistik/engine/IdentitySet" "slots" "[I" .null := (F3.keep K_3 nin0).other W_4 (Or.inr (slot_ne (Or.inl (own_w hw 183 rfl)) (Or.inl (own_w hw 170 rfl)) (by decide) (t := (.array .int)) (t' := (.array (.object "java/lang/Object"))) (by decide) (by decide)))
  have F_7 : Fld Z h_4 a1 "com/example/optimistik/optimistik/engine/IdentitySet" "count" "I" (.int (0 : Int32)) := (F4.keep K_3 nin0).other W_4 (Or.inr (slot_ne (Or.inl (own_w hw 185 rfl)) (Or.inl (own_w hw 170 rfl)) (by decide) (t := .int) (t' := (.array (.object "java/lang/Object"))) (by decide) (by decide)))
  have F_8 : Fld Z h_4 a1 "com/example/optimistik/optimistik/engine/IdentitySet" "elements" "[Ljava/lang/Object;" (.ref b_2) := (F1.keep K_3 nin0).same W_4
  have N_4 := Fr.snoc X_4 N0 g1
  refine own_via st_4 ?_
  show own_Go p e below _ (T_4.setTop (mkF m 12 #[.val (.ref a1), .val (.ref a2)] []))
  refine own_via (fun _ => XS.aloadN X_4.here hx rfl (hb hby d24_12) rfl rfl) ?_
  show own_Go p e below _ (T_4.setTop (mkF m 13 #[.val (.ref a1), .val (.ref a2)] [(.ref a1)]))
  refine own_via (fun _ => XS.aloadN X_4.here hx rfl (hb hby d24_13) rfl rfl) ?_
  show own_Go p e below _ (T_4.setTop (mkF m 14 #[.val (.ref a1), .val (.ref a2)] [(.ref a2), (.ref a1)]))
  have K_9 : Keep h0 h_4 [a1] := Keep.wr (ws := [a1]) (own_keep_mono K_3 (by simp)) W_4 (Or.inl (List.mem_of_getElem? (i := 0) rfl))
  obtain ⟨T_10, h_10, X_10, e_10, W_10, st_10⟩ := putF X_4 hx hZ hown (host := "") (Or.inl (own_w hw 171 rfl)) Via.refl e_4 F_5 (E1.keep K_9) (Or.inr ⟨(own_w hw 172 rfl), rfl, hnm⟩) (own_w hw 159 rfl) (ty := (.object "java/util/function/ToIntFunction")) (by decide) rfl rfl (g := (mkF m 14 #[.val (.ref a1), .val (.ref a2)] [(.ref a2), (.ref a1)])) rfl rfl (hb hby d24_14)
  have F_11 : Fld Z h_10 a1 "com/example/optimistik/optimistik/engine/IdentitySet" "slots" "[I" .null := F_6.other W_10 (Or.inr (slot_ne (Or.inl (own_w hw 183 rfl)) (Or.inr (own_w hw 172 rfl)) (by decide) (t := (.array .int)) (t' := (.object "java/util/function/ToIntFunction")) (by decide) (by decide)))
  have F_12 : Fld Z h_10 a1 "com/example/optimistik/optimistik/engine/IdentitySet" "count" "I" (.int (0 : Int32)) := F_7.other W_10 (Or.inr (slot_ne (Or.inl (own_w hw 185 rfl)) (Or.inr (own_w hw 172 rfl)) (by decide) (t := .int) (t' := (.object "java/util/function/ToIntFunction")) (by decide) (by decide)))
  have F_13 : Fld Z h_10 a1 "com/example/optimistik/optimistik/engine/IdentitySet" "elements" "[Ljava/lang/Object;" (.ref b_2) := F_8.other W_10 (Or.inr (slot_ne (Or.inl (own_w hw 170 rfl)) (Or.inr (own_w hw 172 rfl)) (by decide) (t := (.array (.object "java/lang/Object"))) (t' := (.object "java/util/function/ToIntFunction")) (by decide) (by decide)))
  have F_14 : Fld Z h_10 a1 "com/example/optimistik/optimistik/engine/IdentitySet" "hasher" "Ljava/util/function/ToIntFunction;" (.ref a2) := F_5.same W_10
  have N_10 := Fr.snoc X_10 N_4 g1
  refine own_via st_10 ?_
  show own_Go p e below _ (T_10.setTop (mkF m 17 #[.val (.ref a1), .val (.ref a2)] []))
  have K_15 : Keep h_2 h_4 [a1] := Keep.wr (ws := [a1]) (own_keep_mono (Keep.refl h_2 []) (by simp)) W_4 (Or.inl (List.mem_of_getElem? (i := 0) rfl))
  have K_16 : Keep h_2 h_10 [a1] := Keep.wr (ws := [a1]) K_15 W_10 (Or.inl (List.mem_of_getElem? (i := 0) rfl))
  have K_17 : Keep h0 h_10 [a1] := Keep.wr (ws := [a1]) K_9 W_10 (Or.inl (List.mem_of_getElem? (i := 0) rfl))
  exact own_ret0 X_10 Bd.notSynchronized hx Bd.returns (hb hby d24_17) (by decide) (by decide) (by rw [e_10]; exact ⟨b_2, k_2, rfl, N_10, K_17, (Nat.le_of_eq g_2.symm), (V_2.keep K_16 (ninS (Ne.symm (Nat.ne_of_lt (Nat.lt_of_lt_of_le E1.lt (Nat.le_of_eq g_2.symm)))) nin0)), F_13, F_11, F_12⟩)
theorem d26_0 : decode prog_24_method_4_code 0 = .ok (.iconst 0, 1) := by decide +kernel
theorem d26_1 : decode prog_24_method_4_code 1 = .ok (.istore_n 2, 1) := by decide +kernel
theorem d26_2 : decode prog_24_method_4_code 2 = .ok (.aload_n 0, 1) := by decide +kernel
theorem d26_3 : decode prog_24_method_4_code 3 = .ok (.getfield 34, 3) := by decide +kernel
theorem d26_6 : decode prog_24_method_4_code 6 = .ok (.ifnonnull 42, 3) := by decide +kernel
theorem d26_9 : decode prog_24_method_4_code 9 = .ok (.iconst 0, 1) := by decide +kernel
theorem d26_10 : decode prog_24_method_4_code 10 = .ok (.istore_n 3, 1) := by decide +kernel
theorem d26_11 : decode prog_24_method_4_code 11 = .ok (.iload_n 3, 1) := by decide +kernel
theorem d26_12 : decode prog_24_method_4_code 12 = .ok (.aload_n 0, 1) := by decide +kernel
theorem d26_13 : decode prog_24_method_4_code 13 = .ok (.getfield 25, 3) := by decide +kernel
theorem d26_16 : decode prog_24_method_4_code 16 = .ok (.if_icmp .ge 29, 3) := by decide +kernel
theorem d26_19 : decode prog_24_method_4_code 19 = .ok (.iload_n 2, 1) := by decide +kernel
theorem d26_20 : decode prog_24_method_4_code 20 = .ok (.ifCond .ne 25, 3) := by decide +kernel
theorem d26_23 : decode prog_24_method_4_code 23 = .ok (.aload_n 0, 1) := by decide +kernel
theorem d26_24 : decode prog_24_method_4_code 24 = .ok (.getfield 7, 3) := by decide +kernel
theorem d26_27 : decode prog_24_method_4_code 27 = .ok (.iload_n 3, 1) := by decide +kernel
theorem d26_28 : decode prog_24_method_4_code 28 = .ok (.aaload, 1) := by decide +kernel
theorem d26_29 : decode prog_24_method_4_code 29 = .ok (.aload_n 1, 1) := by decide +kernel
theorem d26_30 : decode prog_24_method_4_code 30 = .ok (.if_acmp .ne 7, 3) := by decide +kernel
theorem d26_33 : decode prog_24_method_4_code 33 = .ok (.iconst 1, 1) := by decide +kernel
theorem d26_34 : decode prog_24_method_4_code 34 = .ok (.goto 4, 3) := by decide +kernel
theorem d26_37 : decode prog_24_method_4_code 37 = .ok (.iconst 0, 1) := by decide +kernel
theorem d26_38 : decode prog_24_method_4_code 38 = .ok (.istore_n 2, 1) := by decide +kernel
theorem d26_39 : decode prog_24_method_4_code 39 = .ok (.iinc 3 1, 3) := by decide +kernel
theorem d26_42 : decode prog_24_method_4_code 42 = .ok (.goto (-31), 3) := by decide +kernel
theorem d26_45 : decode prog_24_method_4_code 45 = .ok (.goto 67, 3) := by decide +kernel
theorem d26_48 : decode prog_24_method_4_code 48 = .ok (.aload_n 0, 1) := by decide +kernel
theorem d26_49 : decode prog_24_method_4_code 49 = .ok (.getfield 34, 3) := by decide +kernel
theorem d26_52 : decode prog_24_method_4_code 52 = .ok (.arraylength, 1) := by decide +kernel
theorem d26_53 : decode prog_24_method_4_code 53 = .ok (.iconst 1, 1) := by decide +kernel
theorem d26_54 : decode prog_24_method_4_code 54 = .ok (.isub, 1) := by decide +kernel
theorem d26_55 : decode prog_24_method_4_code 55 = .ok (.istore_n 3, 1) := by decide +kernel
theorem d26_56 : decode prog_24_method_4_code 56 = .ok (.aload_n 0, 1) := by decide +kernel
theorem d26_57 : decode prog_24_method_4_code 57 = .ok (.aload_n 1, 1) := by decide +kernel
theorem d26_58 : decode prog_24_method_4_code 58 = .ok (.invokevirtual 38, 3) := by decide +kernel
theorem d26_61 : decode prog_24_method_4_code 61 = .ok (.istore 4, 2) := by decide +kernel
theorem d26_63 : decode prog_24_method_4_code 63 = .ok (.aload_n 0, 1) := by decide +kernel
theorem d26_64 : decode prog_24_method_4_code 64 = .ok (.getfield 34, 3) := by decide +kernel
theorem d26_67 : decode prog_24_method_4_code 67 = .ok (.iload 4, 2) := by decide +kernel
theorem d26_69 : decode prog_24_method_4_code 69 = .ok (.iaload, 1) := by decide +kernel
theorem d26_70 : decode prog_24_method_4_code 70 = .ok (.ifCond .eq 42, 3) := by decide +kernel
theorem d26_73 : decode prog_24_method_4_code 73 = .ok (.iload_n 2, 1) := by decide +kernel
theorem d26_74 : decode prog_24_method_4_code 74 = .ok (.ifCond .ne 38, 3) := by decide +kernel
theorem d26_77 : decode prog_24_method_4_code 77 = .ok (.aload_n 0, 1) := by decide +kernel
theorem d26_78 : decode prog_24_method_4_code 78 = .ok (.getfield 7, 3) := by decide +kernel
theorem d26_81 : decode prog_24_method_4_code 81 = .ok (.aload_n 0, 1) := by decide +kernel
theorem d26_82 : decode prog_24_method_4_code 82 = .ok (.getfield 34, 3) := by decide +kernel
theorem d26_85 : decode prog_24_method_4_code 85 = .ok (.iload 4, 2) := by decide +kernel
theorem d26_87 : decode prog_24_method_4_code 87 = .ok (.iaload, 1) := by decide +kernel
theorem d26_88 : decode prog_24_method_4_code 88 = .ok (.iconst 1, 1) := by decide +kernel
theorem d26_89 : decode prog_24_method_4_code 89 = .ok (.isub, 1) := by decide +kernel
theorem d26_90 : decode prog_24_method_4_code 90 = .ok (.aaload, 1) := by decide +kernel
theorem d26_91 : decode prog_24_method_4_code 91 = .ok (.aload_n 1, 1) := by decide +kernel
theorem d26_92 : decode prog_24_method_4_code 92 = .ok (.if_acmp .ne 7, 3) := by decide +kernel
theorem d26_95 : decode prog_24_method_4_code 95 = .ok (.iconst 1, 1) := by decide +kernel
theorem d26_96 : decode prog_24_method_4_code 96 = .ok (.goto 4, 3) := by decide +kernel
theorem d26_99 : decode prog_24_method_4_code 99 = .ok (.iconst 0, 1) := by decide +kernel
theorem d26_100 : decode prog_24_method_4_code 100 = .ok (.istore_n 2, 1) := by decide +kernel
theorem d26_101 : decode prog_24_method_4_code 101 = .ok (.iload 4, 2) := by decide +kernel
theorem d26_103 : decode prog_24_method_4_code 103 = .ok (.iconst 1, 1) := by decide +kernel
theorem d26_104 : decode prog_24_method_4_code 104 = .ok (.iadd, 1) := by decide +kernel
theorem d26_105 : decode prog_24_method_4_code 105 = .ok (.iload_n 3, 1) := by decide +kernel
theorem d26_106 : decode prog_24_method_4_code 106 = .ok (.iand, 1) := by decide +kernel
theorem d26_107 : decode prog_24_method_4_code 107 = .ok (.istore 4, 2) := by decide +kernel
theorem d26_109 : decode prog_24_method_4_code 109 = .ok (.goto (-46), 3) := by decide +kernel
theorem d26_112 : decode prog_24_method_4_code 112 = .ok (.iload_n 2, 1) := by decide +kernel
theorem d26_113 : decode prog_24_method_4_code 113 = .ok (.ireturn, 1) := by decide +kernel
theorem ef_contains0 (m : MethodId) (a1 : Addr) : entryFrame m #[(.ref a1), .null] 5 = mkF m 0 #[.val (.ref a1), .val .null, .unset, .unset, .unset] [] := by first | (simp [entryFrame, mkF, argsToLocals, Value.category]; done) | rfl
def Qcontains0 (Z : State) (a1 : Addr) (h0 : Heap) (n0 : Nat) (v : Option Value) (h : Heap) (L : List Loc) : Prop := v = some (.int (0 : Int32)) ∧ Fr n0 L ∧ h = h0
set_option maxRecDepth 65536 in
set_option maxHeartbeats 40000000 in
theorem rmcontains0 (l : Launch) (Z : State) (a0 : Array Value) (hw : ∀ d ∈ tables_1, d.before a0 Z = true) (ws : List Jvm.Cond) (a1 : Addr) (h0 : Heap) (n0 : Nat) (Z0 : n0 ≤ h0.size) (F3 : Fld Z h0 a1 "com/example/optimistik/optimistik/engine/IdentitySet" "slots" "[I" .null) (F4 : Fld Z h0 a1 "com/example/optimistik/optimistik/engine/IdentitySet" "count" "I" (.int (0 : Int32))) :
    MetFree l (⟨"com/example/optimistik/optimistik/engine/IdentitySet", "contains", "(Ljava/lang/Object;)Z"⟩ : MethodName) (head1 (Jvm.Cond.code (⟨"com/example/optimistik/optimistik/engine/IdentitySet", "contains", "(Ljava/lang/Object;)Z"⟩ : MethodName) prog_24_method_4_code 5 (some .boolean) :: ws) ({ frames := 0, cells := 0, slots := 0, locals := 0 } : Room)) (fun a U => a = #[(.ref a1), .null] ∧ Z.Warmed39 U.vm ∧ U.heap = h0) (fun _ _ _ _ _ => True) (fun _ U o U' => ∃ v L, o = .returned v ∧ Qcontains0 Z a1 h0 n0 v U'.heap L ∧ FrameEnd U o U' L ({ frames := 0, cells := 0, slots := 0, locals := 0 } : Room).cells ({ frames := 0, cells := 0, slots := 0, locals := 0 } : Room).slots) := by
  refine MetFree.of_bodySF (plainFor_of_name pn_com_example_optimistik_optimistik_engine_IdentitySet) hisR ?_
  intro p e s m args below meth c s₁ Bd hml0 hP hK
  obtain ⟨rfl, hZ, hH0⟩ := hP
  have hx := Bd.exec
  have hby := Bd.bytes
  have hml : c.maxLocals = 5 := hml0
  have hown : s.vm.findClass "com/example/optimistik/optimistik/engine/IdentitySet" = some m.cls := findClass_of_methodNamed Bd.named
  have hnm := (name_of_methodNamed Bd.named Bd.method).1
  have X0 : Stand p l e ({ frames := 0, cells := 0, slots := 0, locals := 0 } : Room) s m #[(.ref a1), .null] below meth c s₁ [] 0 0 := Stand.of_body Bd
  have e0 : s₁.heap = h0 := by rw [← hH0, Bd.state]; rfl
  have N0 := Fr.nil n0
  refine own_cast (ef_contains0 m a1) ?_
  show own_Go p e below (fun o U' => ∃ v L, o = .returned v ∧ Qcontains0 Z a1 h0 n0 v U'.heap L ∧ FrameEnd s o U' L ({ frames := 0, cells := 0, slots := 0, locals := 0 } : Room).cells ({ frames := 0, cells := 0, slots := 0, locals := 0 } : Room).slots) (s₁.setTop (mkF m 0 #[.val (.ref a1), .val .null, .unset, .unset, .unset] []))
  refine own_via (fun _ => XS.iconst X0.here hx rfl (hb hby d26_0)) ?_
  show own_Go p e below _ (s₁.setTop (mkF m 1 #[.val (.ref a1), .val .null, .unset, .unset, .unset] [(.int (0 : Int32))]))
  refine own_via (fun _ => XS.istoreN X0.here hx rfl (hb hby d26_1) rfl (l' := #[.val (.ref a1), .val .null, .val (.int (0 : Int32)), .unset, .unset]) rfl) ?_
  show own_Go p e below _ (s₁.setTop (mkF m 2 #[.val (.ref a1), .val .null, .val (.int (0 : Int32)), .unset, .unset] []))
  refine own_via (fun _ => XS.aloadN X0.here hx rfl (hb hby d26_2) rfl rfl) ?_
  show own_Go p e below _ (s₁.setTop (mkF m 3 #[.val (.ref a1), .val .null, .val (.int (0 : Int32)), .unset, .unset] [(.ref a1)]))
  obtain ⟨T_1, X_1, e_1, st_1⟩ := getF X0 hx hZ hown (host := "") (Or.inl (own_w hw 182 rfl)) Via.refl e0 F3 (g := (mkF m 3 #[.val (.ref a1), .val .null, .val (.int (0 : Int32)), .unset, .unset] [(.ref a1)])) rfl rfl (hb hby d26_3)
  refine own_via st_1 ?_
  show own_Go p e below _ (T_1.setTop (mkF m 6 #[.val (.ref a1), .val .null, .val (.int (0 : Int32)), .unset, .unset] [.null]))
  refine own_via (fun _ => XS.ifnonnullNo X_1.here hx rfl (hb hby d26_6) rfl) ?_
  show own_Go p e below _ (T_1.setTop (mkF m 9 #[.val (.ref a1), .val .null, .val (.int (0 : Int32)), .unset, .unset] []))
  refine own_via (fun _ => XS.iconst X_1.here hx rfl (hb hby d26_9)) ?_
  show own_Go p e below _ (T_1.setTop (mkF m 10 #[.val (.ref a1), .val .null, .val (.int (0 : Int32)), .unset, .unset] [(.int (0 : Int32))]))
  refine own_via (fun _ => XS.istoreN X_1.here hx rfl (hb hby d26_10) rfl (l' := #[.val (.ref a1), .val .null, .val (.int (0 : Int32)), .val (.int (0 : Int32)), .unset]) rfl) ?_
  show own_Go p e below _ (T_1.setTop (mkF m 11 #[.val (.ref a1), .val .null, .val (.int (0 : Int32)), .val (.int (0 : Int32)), .unset] []))
  refine own_via (fun _ => XS.iloadN X_1.here hx rfl (hb hby d26_11) rfl) ?_
  show own_Go p e below _ (T_1.setTop (mkF m 12 #[.val (.ref a1), .val .null, .val (.int (0 : Int32)), .val (.int (0 : Int32)), .unset] [(.int (0 : Int32))]))
  refine own_via (fun _ => XS.aloadN X_1.here hx rfl (hb hby d26_12) rfl rfl) ?_
  show own_Go p e below _ (T_1.setTop (mkF m 13 #[.val (.ref a1), .val .null, .val (.int (0 : Int32)), .val (.int (0 : Int32)), .unset] [(.ref a1), (.int (0 : Int32))]))
  obtain ⟨T_2, X_2, e_2, st_2⟩ := getF X_1 hx hZ hown (host := "") (Or.inl (own_w hw 184 rfl)) Via.refl e_1 F4 (g := (mkF m 13 #[.val (.ref a1), .val .null, .val (.int (0 : Int32)), .val (.int (0 : Int32)), .unset] [(.ref a1), (.int (0 : Int32))])) rfl rfl (hb hby d26_13)
  refine own_via st_2 ?_
  show own_Go p e below _ (T_2.setTop (mkF m 16 #[.val (.ref a1), .val .null, .val (.int (0 : Int32)), .val (.int (0 : Int32)), .unset] [(.int (0 : Int32)), (.int (0 : Int32))]))
  refine own_via (fun _ => XS.icmpYes X_2.here hx rfl (pc0 := 16) (pc' := 45) rfl (hb hby d26_16) rfl (flt ((by decide) : ¬ ((0 : Int32) < (0 : Int32)))).2.1 (by decide) (by decide)) ?_
  show own_Go p e below _ (T_2.setTop (mkF m 45 #[.val (.ref a1), .val .null, .val (.int (0 : Int32)), .val (.int (0 : Int32)), .unset] []))
  refine own_via (fun _ => XS.goto X_2.here hx rfl (pc0 := 45) (pc' := 112) rfl (hb hby d26_45) (by decide) (by decide)) ?_
  show own_Go p e below _ (T_2.setTop (mkF m 112 #[.val (.ref a1), .val .null, .val (.int (0 : Int32)), .val (.int (0 : Int32)), .unset] []))
  refine own_via (fun _ => XS.iloadN X_2.here hx rfl (hb hby d26_112) rfl) ?_
  show own_Go p e below _ (T_2.setTop (mkF m 113 #[.val (.ref a1), .val .null, .val (.int (0 : Int32)), .val (.int (0 : Int32)), .unset] [(.int (0 : Int32))]))
  exact own_retv X_2 Bd.notSynchronized hx Bd.returns rfl (Or.inl ⟨rfl, (by simp), _, rfl⟩) (hb hby d26_113) (by decide) (by decide) (by rw [e_2]; exact ⟨rfl, N0, rfl⟩)
theorem ef_contains1 (m : MethodId) (a1 : Addr) : entryFrame m #[(.ref a1), .null] 5 = mkF m 0 #[.val (.ref a1), .val .null, .unset, .unset, .unset] [] := by first | (simp [entryFrame, mkF, argsToLocals, Value.category]; done) | rfl
def Qcontains1 (Z : State) (a1 : Addr) (ar : Addr) (k : ClassId) (h0 : Heap) (n0 : Nat) (v : Option Value) (h : Heap) (L : List Loc) : Prop := v = some (.int (1 : Int32)) ∧ Fr n0 L ∧ h = h0
set_option maxRecDepth 65536 in
set_option maxHeartbeats 40000000 in
theorem rmcontains1 (l : Launch) (Z : State) (a0 : Array Value) (hw : ∀ d ∈ tables_1, d.before a0 Z = true) (ws : List Jvm.Cond) (a1 : Addr) (ar : Addr) (k : ClassId) (h0 : Heap) (n0 : Nat) (Z0 : n0 ≤ h0.size) (F1 : Fld Z h0 a1 "com/example/optimistik/optimistik/engine/IdentitySet" "elements" "[Ljava/lang/Object;" (.ref ar)) (F3 : Fld Z h0 a1 "com/example/optimistik/optimistik/engine/IdentitySet" "slots" "[I" .null) (F4 : Fld Z h0 a1 "com/example/optimistik/optimistik/engine/IdentitySet" "count" "I" (.int (1 : Int32))) (A1 : Arv Z h0 ar k (.object "java/lang/Object") (2 : Int32) [.null, .null] .null) :
    MetFree l (⟨"com/example/optimistik/optimistik/engine/IdentitySet", "contains", "(Ljava/lang/Object;)Z"⟩ : MethodName) (head1 (Jvm.Cond.code (⟨"com/example/optimistik/optimistik/engine/IdentitySet", "contains", "(Ljava/lang/Object;)Z"⟩ : MethodName) prog_24_method_4_code 5 (some .boolean) :: ws) ({ frames := 0, cells := 0, slots := 0, locals := 0 } : Room)) (fun a U => a = #[(.ref a1), .null] ∧ Z.Warmed39 U.vm ∧ U.heap = h0) (fun _ _ _ _ _ => True) (fun _ U o U' => ∃ v L, o = .returned v ∧ Qcontains1 Z a1 ar k h0 n0 v U'.heap L ∧ FrameEnd U o U' L ({ frames := 0, cells := 0, slots := 0, locals := 0 } : Room).cells ({ frames := 0, cells := 0, slots := 0, locals := 0 } : Room).slots) := by
  refine MetFree.of_bodySF (plainFor_of_name pn_com_example_optimistik_optimistik_engine_IdentitySet) hisR ?_
  intro p e s m args below meth c s₁ Bd hml0 hP hK
  obtain ⟨rfl, hZ, hH0⟩ := hP
  have hx := Bd.exec
  have hby := Bd.bytes
  have hml : c.maxLocals = 5 := hml0
  have hown : s.vm.findClass "com/example/optimistik/optimistik/engine/IdentitySet" = some m.cls := findClass_of_methodNamed Bd.named
  have hnm := (name_of_methodNamed Bd.named Bd.method).1
  have X0 : Stand p l e ({ frames := 0, cells := 0, slots := 0, locals := 0 } : Room) s m #[(.ref a1), .null] below meth c s₁ [] 0 0 := Stand.of_body Bd
  have e0 : s₁.heap = h0 := by rw [← hH0, Bd.state]; rfl
  have N0 := Fr.nil n0
  refine own_cast (ef_contains1 m a1) ?_
  show own_Go p e below (fun o U' => ∃ v L, o = .returned v ∧ Qcontains1 Z a1 ar k h0 n0 v U'.heap L ∧ FrameEnd s o U' L ({ frames := 0, cells := 0, slots := 0, locals := 0 } : Room).cells ({ frames := 0, cells := 0, slots := 0, locals := 0 } : Room).slots) (s₁.setTop (mkF m 0 #[.val (.ref a1), .val .null, .unset, .unset, .unset] []))
  refine own_via (fun _ => XS.iconst X0.here hx rfl (hb hby d26_0)) ?_
  show own_Go p e below _ (s₁.setTop (mkF m 1 #[.val (.ref a1), .val .null, .unset, .unset, .unset] [(.int (0 : Int32))]))
  refine own_via (fun _ => XS.istoreN X0.here hx rfl (hb hby d26_1) rfl (l' := #[.val (.ref a1), .val .null, .val (.int (0 : Int32)), .unset, .unset]) rfl) ?_
  show own_Go p e below _ (s₁.setTop (mkF m 2 #[.val (.ref a1), .val .null, .val (.int (0 : Int32)), .unset, .unset] []))
  refine own_via (fun _ => XS.aloadN X0.here hx rfl (hb hby d26_2) rfl rfl) ?_
  show own_Go p e below _ (s₁.setTop (mkF m 3 #[.val (.ref a1), .val .null, .val (.int (0 : Int32)), .unset, .unset] [(.ref a1)]))
  obtain ⟨T_1, X_1, e_1, st_1⟩ := getF X0 hx hZ hown (host := "") (Or.inl (own_w hw 182 rfl)) Via.refl e0 F3 (g := (mkF m 3 #[.val (.ref a1), .val .null, .val (.int (0 : Int32)), .unset, .unset] [(.ref a1)])) rfl rfl (hb hby d26_3)
  refine own_via st_1 ?_
  show own_Go p e below _ (T_1.setTop (mkF m 6 #[.val (.ref a1), .val .null, .val (.int (0 : Int32)), .unset, .unset] [.null]))
  refine own_via (fun _ => XS.ifnonnullNo X_1.here hx rfl (hb hby d26_6) rfl) ?_
  show own_Go p e below _ (T_1.setTop (mkF m 9 #[.val (.ref a1), .val .null, .val (.int (0 : Int32)), .unset, .unset] []))
  refine own_via (fun _ => XS.iconst X_1.here hx rfl (hb hby d26_9)) ?_
  show own_Go p e below _ (T_1.setTop (mkF m 10 #[.val (.ref a1), .val .null, .val (.int (0 : Int32)), .unset, .unset] [(.int (0 : Int32))]))
  refine own_via (fun _ => XS.istoreN X_1.here hx rfl (hb hby d26_10) rfl (l' := #[.val (.ref a1), .val .null, .val (.int (0 : Int32)), .val (.int (0 : Int32)), .unset]) rfl) ?_
  show own_Go p e below _ (T_1.setTop (mkF m 11 #[.val (.ref a1), .val .null, .val (.int (0 : Int32)), .val (.int (0 : Int32)), .unset] []))
  refine own_via (fun _ => XS.iloadN X_1.here hx rfl (hb hby d26_11) rfl) ?_
  show own_Go p e below _ (T_1.setTop (mkF m 12 #[.val (.ref a1), .val .null, .val (.int (0 : Int32)), .val (.int (0 : Int32)), .unset] [(.int (0 : Int32))]))
  refine own_via (fun _ => XS.aloadN X_1.here hx rfl (hb hby d26_12) rfl rfl) ?_
  show own_Go p e below _ (T_1.setTop (mkF m 13 #[.val (.ref a1), .val .null, .val (.int (0 : Int32)), .val (.int (0 : Int32)), .unset] [(.ref a1), (.int (0 : Int32))]))
  obtain ⟨T_2, X_2, e_2, st_2⟩ := getF X_1 hx hZ hown (host := "") (Or.inl (own_w hw 184 rfl)) Via.refl e_1 F4 (g := (mkF m 13 #[.val (.ref a1), .val .null, .val (.int (0 : Int32)), .val (.int (0 : Int32)), .unset] [(.ref a1), (.int (0 : Int32))])) rfl rfl (hb hby d26_13)
  refine own_via st_2 ?_
  show own_Go p e below _ (T_2.setTop (mkF m 16 #[.val (.ref a1), .val .null, .val (.int (0 : Int32)), .val (.int (0 : Int32)), .unset] [(.int (1 : Int32)), (.int (0 : Int32))]))
  refine own_via (fun _ => XS.icmpNo X_2.here hx rfl (hb hby d26_16) rfl (tlt ((by decide) : (0 : Int32) < (1 : Int32))).2.1) ?_
  show own_Go p e below _ (T_2.setTop (mkF m 19 #[.val (.ref a1), .val .null, .val (.int (0 : Int32)), .val (.int (0 : Int32)), .unset] []))
  refine own_via (fun _ => XS.iloadN X_2.here hx rfl (hb hby d26_19) rfl) ?_
  show own_Go p e below _ (T_2.setTop (mkF m 20 #[.val (.ref a1), .val .null, .val (.int (0 : Int32)), .val (.int (0 : Int32)), .unset] [(.int (0 : Int32))]))
  refine own_via (fun _ => XS.ifNo X_2.here hx rfl (hb hby d26_20) rfl ((if0 _ _).trans (teq ((by decide) : (0 : Int32) = (0 : Int32))).2)) ?_
  show own_Go p e below _ (T_2.setTop (mkF m 23 #[.val (.ref a1), .val .null, .val (.int (0 : Int32)), .val (.int (0 : Int32)), .unset] []))
  refine own_via (fun _ => XS.aloadN X_2.here hx rfl (hb hby d26_23) rfl rfl) ?_
  show own_Go p e below _ (T_2.setTop (mkF m 24 #[.val (.ref a1), .val .null, .val (.int (0 : Int32)), .val (.int (0 : Int32)), .unset] [(.ref a1)]))
  obtain ⟨T_3, X_3, e_3, st_3⟩ := getF X_2 hx hZ hown (host := "") (Or.inl (own_w hw 169 rfl)) Via.refl e_2 F1 (g := (mkF m 24 #[.val (.ref a1), .val .null, .val (.int (0 : Int32)), .val (.int (0 : Int32)), .unset] [(.ref a1)])) rfl rfl (hb hby d26_24)
  refine own_via st_3 ?_
  show own_Go p e below _ (T_3.setTop (mkF m 27 #[.val (.ref a1), .val .null, .val (.int (0 : Int32)), .val (.int (0 : Int32)), .unset] [(.ref ar)]))
  refine own_via (fun _ => XS.iloadN X_3.here hx rfl (hb hby d26_27) rfl) ?_
  show own_Go p e below _ (T_3.setTop (mkF m 28 #[.val (.ref a1), .val .null, .val (.int (0 : Int32)), .val (.int (0 : Int32)), .unset] [(.int (0 : Int32)), (.ref ar)]))
  obtain ⟨cl_4, Ar_4, q_4, S_4, M_4, H_4, G_4⟩ := (id A1)
  have in_4 : ¬ ((0 : Int32) < 0 ∨ cl_4.slots.size ≤ ((0 : Int32)).toNatClampNeg) := inb_of S_4 ⟨by decide, by decide⟩
  refine own_via (fun _ => X_3.aaload hx (j := (0 : Int32)) (v := .null) (by rw [e_3]; exact Ar_4.1) (State.isArrayOf_alike hZ.alike Ar_4.2.1) rfl Ar_4.2.2 in_4 (Has.at H_4 in_4 rfl) (g := (mkF m 28 #[.val (.ref a1), .val .null, .val (.int (0 : Int32)), .val (.int (0 : Int32)), .unset] [(.int (0 : Int32)), (.ref ar)])) rfl rfl (hb hby d26_28) _) ?_
  show own_Go p e below _ (T_3.setTop (mkF m 29 #[.val (.ref a1), .val .null, .val (.int (0 : Int32)), .val (.int (0 : Int32)), .unset] [.null]))
  refine own_via (fun _ => XS.aloadN X_3.here hx rfl (hb hby d26_29) rfl rfl) ?_
  show own_Go p e below _ (T_3.setTop (mkF m 30 #[.val (.ref a1), .val .null, .val (.int (0 : Int32)), .val (.int (0 : Int32)), .unset] [.null, .null]))
  refine own_via (fun _ => Jvm.RoadKit.acmp (g := (mkF m 30 #[.val (.ref a1), .val .null, .val (.int (0 : Int32)), .val (.int (0 : Int32)), .unset] [.null, .null])) X_3 hx rfl rfl rfl (pc0 := 30) (pc' := 33) (same := true) rfl (hb hby d26_30) rfl (decide_eq_true rfl) (by decide) (by decide)) ?_
  show own_Go p e below _ (T_3.setTop (mkF m 33 #[.val (.ref a1), .val .null, .val (.int (0 : Int32)), .val (.int (0 : Int32)), .unset] []))
  refine own_via (fun _ => XS.iconst X_3.here hx rfl (hb hby d26_33)) ?_
  show own_Go p e below _ (T_3.setTop (mkF m 34 #[.val (.ref a1), .val .null, .val (.int (0 : Int32)), .val (.int (0 : Int32)), .unset] [(.int (1 : Int32))]))
  refine own_via (fun _ => XS.goto X_3.here hx rfl (pc0 := 34) (pc' := 38) rfl (hb hby d26_34) (by decide) (by decide)) ?_
  show own_Go p e below _ (T_3.setTop (mkF m 38 #[.val (.ref a1), .val .null, .val (.int (0 : Int32)), .val (.int (0 : Int32)), .unset] [(.int (1 : Int32))]))
  refine own_via (fun _ => XS.istoreN X_3.here hx rfl (hb hby d26_38) rfl (l' := #[.val (.ref a1), .val .null, .val (.int (1 : Int32)), .val (.int (0 : Int32)), .unset]) rfl) ?_
  show own_Go p e below _ (T_3.setTop (mkF m 39 #[.val (.ref a1), .val .null, .val (.int (1 : Int32)), .val (.int (0 : Int32)), .unset] []))
  refine own_via (fun _ => XS.iinc X_3.here hx rfl (hb hby d26_39) rfl (l' := #[.val (.ref a1), .val .null, .val (.int (1 : Int32)), .val (.int (1 : Int32)), .unset]) rfl) ?_
  show own_Go p e below _ (T_3.setTop (mkF m 42 #[.val (.ref a1), .val .null, .val (.int (1 : Int32)), .val (.int (1 : Int32)), .unset] []))
  refine own_via (fun _ => XS.goto X_3.here hx rfl (pc0 := 42) (pc' := 11) rfl (hb hby d26_42) (by decide) (by decide)) ?_
  show own_Go p e below _ (T_3.setTop (mkF m 11 #[.val (.ref a1), .val .null, .val (.int (1 : Int32)), .val (.int (1 : Int32)), .unset] []))
  refine own_via (fun _ => XS.iloadN X_3.here hx rfl (hb hby d26_11) rfl) ?_
  show own_Go p e below _ (T_3.setTop (mkF m 12 #[.val (.ref a1), .val .null, .val (.int (1 : Int32)), .val (.int (1 : Int32)), .unset] [(.int (1 : Int32))]))
  refine own_via (fun _ => XS.aloadN X_3.here hx rfl (hb hby d26_12) rfl rfl) ?_
  show own_Go p e below _ (T_3.setTop (mkF m 13 #[.val (.ref a1), .val .null, .val (.int (1 : Int32)), .val (.int (1 : Int32)), .unset] [(.ref a1), (.int (1 : Int32))]))
  obtain ⟨T_5, X_5, e_5, st_5⟩ := getF X_3 hx hZ hown (host := "") (Or.inl (own_w hw 184 rfl)) Via.refl e_3 F4 (g := (mkF m 13 #[.val (.ref a1), .val .null, .val (.int (1 : Int32)), .val (.int (1 : Int32)), .unset] [(.ref a1), (.int (1 : Int32))])) rfl rfl (hb hby d26_13)
  refine own_via st_5 ?_
  show own_Go p e below _ (T_5.setTop (mkF m 16 #[.val (.ref a1), .val .null, .val (.int (1 : Int32)), .val (.int (1 : Int32)), .unset] [(.int (1 : Int32)), (.int (1 : Int32))]))
  refine own_via (fun _ => XS.icmpYes X_5.here hx rfl (pc0 := 16) (pc' := 45) rfl (hb hby d26_16) rfl (flt ((by decide) : ¬ ((1 : Int32) < (1 : Int32)))).2.1 (by decide) (by decide)) ?_
  show own_Go p e below _ (T_5.setTop (mkF m 45 #[.val (.ref a1), .val .null, .val (.int (1 : Int32)), .val (.int (1 : Int32)), .unset] []))
  refine own_via (fun _ => XS.goto X_5.here hx rfl (pc0 := 45) (pc' := 112) rfl (hb hby d26_45) (by decide) (by decide)) ?_
  show own_Go p e below _ (T_5.setTop (mkF m 112 #[.val (.ref a1), .val .null, .val (.int (1 : Int32)), .val (.int (1 : Int32)), .unset] []))
  refine own_via (fun _ => XS.iloadN X_5.here hx rfl (hb hby d26_112) rfl) ?_
  show own_Go p e below _ (T_5.setTop (mkF m 113 #[.val (.ref a1), .val .null, .val (.int (1 : Int32)), .val (.int (1 : Int32)), .unset] [(.int (1 : Int32))]))
  exact own_retv X_5 Bd.notSynchronized hx Bd.returns rfl (Or.inl ⟨rfl, (by simp), _, rfl⟩) (hb hby d26_113) (by decide) (by decide) (by rw [e_5]; exact ⟨rfl, N0, rfl⟩)
theorem d27_0 : decode prog_24_method_5_code 0 = .ok (.aload_n 0, 1) := by decide +kernel
theorem d27_1 : decode prog_24_method_5_code 1 = .ok (.getfield 25, 3) := by decide +kernel
theorem d27_4 : decode prog_24_method_5_code 4 = .ok (.aload_n 0, 1) := by decide +kernel
theorem d27_5 : decode prog_24_method_5_code 5 = .ok (.getfield 7, 3) := by decide +kernel
theorem d27_8 : decode prog_24_method_5_code 8 = .ok (.arraylength, 1) := by decide +kernel
theorem d27_9 : decode prog_24_method_5_code 9 = .ok (.if_icmp .ne 20, 3) := by decide +kernel
theorem d27_12 : decode prog_24_method_5_code 12 = .ok (.aload_n 0, 1) := by decide +kernel
theorem d27_13 : decode prog_24_method_5_code 13 = .ok (.aload_n 0, 1) := by decide +kernel
theorem d27_14 : decode prog_24_method_5_code 14 = .ok (.getfield 7, 3) := by decide +kernel
theorem d27_17 : decode prog_24_method_5_code 17 = .ok (.iconst 2, 1) := by decide +kernel
theorem d27_18 : decode prog_24_method_5_code 18 = .ok (.aload_n 0, 1) := by decide +kernel
theorem d27_19 : decode prog_24_method_5_code 19 = .ok (.getfield 25, 3) := by decide +kernel
theorem d27_22 : decode prog_24_method_5_code 22 = .ok (.imul, 1) := by decide +kernel
theorem d27_23 : decode prog_24_method_5_code 23 = .ok (.invokestatic 42, 3) := by decide +kernel
theorem d27_26 : decode prog_24_method_5_code 26 = .ok (.putfield 7, 3) := by decide +kernel
theorem d27_29 : decode prog_24_method_5_code 29 = .ok (.aload_n 0, 1) := by decide +kernel
theorem d27_30 : decode prog_24_method_5_code 30 = .ok (.getfield 7, 3) := by decide +kernel
theorem d27_33 : decode prog_24_method_5_code 33 = .ok (.aload_n 0, 1) := by decide +kernel
theorem d27_34 : decode prog_24_method_5_code 34 = .ok (.getfield 25, 3) := by decide +kernel
theorem d27_37 : decode prog_24_method_5_code 37 = .ok (.aload_n 1, 1) := by decide +kernel
theorem d27_38 : decode prog_24_method_5_code 38 = .ok (.aastore, 1) := by decide +kernel
theorem d27_39 : decode prog_24_method_5_code 39 = .ok (.aload_n 0, 1) := by decide +kernel
theorem d27_40 : decode prog_24_method_5_code 40 = .ok (.dup, 1) := by decide +kernel
theorem d27_41 : decode prog_24_method_5_code 41 = .ok (.getfield 25, 3) := by decide +kernel
theorem d27_44 : decode prog_24_method_5_code 44 = .ok (.iconst 1, 1) := by decide +kernel
theorem d27_45 : decode prog_24_method_5_code 45 = .ok (.iadd, 1) := by decide +kernel
theorem d27_46 : decode prog_24_method_5_code 46 = .ok (.putfield 25, 3) := by decide +kernel
theorem d27_49 : decode prog_24_method_5_code 49 = .ok (.aload_n 0, 1) := by decide +kernel
theorem d27_50 : decode prog_24_method_5_code 50 = .ok (.getfield 25, 3) := by decide +kernel
theorem d27_53 : decode prog_24_method_5_code 53 = .ok (.bipush 8, 2) := by decide +kernel
theorem d27_55 : decode prog_24_method_5_code 55 = .ok (.if_icmp .le 73, 3) := by decide +kernel
theorem d27_58 : decode prog_24_method_5_code 58 = .ok (.aload_n 0, 1) := by decide +kernel
theorem d27_59 : decode prog_24_method_5_code 59 = .ok (.getfield 34, 3) := by decide +kernel
theorem d27_62 : decode prog_24_method_5_code 62 = .ok (.ifnull 17, 3) := by decide +kernel
theorem d27_65 : decode prog_24_method_5_code 65 = .ok (.iconst 2, 1) := by decide +kernel
theorem d27_66 : decode prog_24_method_5_code 66 = .ok (.aload_n 0, 1) := by decide +kernel
theorem d27_67 : decode prog_24_method_5_code 67 = .ok (.getfield 25, 3) := by decide +kernel
theorem d27_70 : decode prog_24_method_5_code 70 = .ok (.imul, 1) := by decide +kernel
theorem d27_71 : decode prog_24_method_5_code 71 = .ok (.aload_n 0, 1) := by decide +kernel
theorem d27_72 : decode prog_24_method_5_code 72 = .ok (.getfield 34, 3) := by decide +kernel
theorem d27_75 : decode prog_24_method_5_code 75 = .ok (.arraylength, 1) := by decide +kernel
theorem d27_76 : decode prog_24_method_5_code 76 = .ok (.if_icmp .le 42, 3) := by decide +kernel
theorem d27_79 : decode prog_24_method_5_code 79 = .ok (.aload_n 0, 1) := by decide +kernel
theorem d27_80 : decode prog_24_method_5_code 80 = .ok (.aload_n 0, 1) := by decide +kernel
theorem d27_81 : decode prog_24_method_5_code 81 = .ok (.getfield 25, 3) := by decide +kernel
theorem d27_84 : decode prog_24_method_5_code 84 = .ok (.invokestatic 48, 3) := by decide +kernel
theorem d27_87 : decode prog_24_method_5_code 87 = .ok (.iconst 2, 1) := by decide +kernel
theorem d27_88 : decode prog_24_method_5_code 88 = .ok (.ishl, 1) := by decide +kernel
theorem d27_89 : decode prog_24_method_5_code 89 = .ok (.newarray .int, 2) := by decide +kernel
theorem d27_91 : decode prog_24_method_5_code 91 = .ok (.putfield 34, 3) := by decide +kernel
theorem d27_94 : decode prog_24_method_5_code 94 = .ok (.iconst 0, 1) := by decide +kernel
theorem d27_95 : decode prog_24_method_5_code 95 = .ok (.istore_n 2, 1) := by decide +kernel
theorem d27_96 : decode prog_24_method_5_code 96 = .ok (.iload_n 2, 1) := by decide +kernel
theorem d27_97 : decode prog_24_method_5_code 97 = .ok (.aload_n 0, 1) := by decide +kernel
theorem d27_98 : decode prog_24_method_5_code 98 = .ok (.getfield 25, 3) := by decide +kernel
theorem d27_101 : decode prog_24_method_5_code 101 = .ok (.if_icmp .ge 14, 3) := by decide +kernel
theorem d27_104 : decode prog_24_method_5_code 104 = .ok (.aload_n 0, 1) := by decide +kernel
theorem d27_105 : decode prog_24_method_5_code 105 = .ok (.iload_n 2, 1) := by decide +kernel
theorem d27_106 : decode prog_24_method_5_code 106 = .ok (.invokevirtual 54, 3) := by decide +kernel
theorem d27_109 : decode prog_24_method_5_code 109 = .ok (.iinc 2 1, 3) := by decide +kernel
theorem d27_112 : decode prog_24_method_5_code 112 = .ok (.goto (-16), 3) := by decide +kernel
theorem d27_115 : decode prog_24_method_5_code 115 = .ok (.goto 13, 3) := by decide +kernel
theorem d27_118 : decode prog_24_method_5_code 118 = .ok (.aload_n 0, 1) := by decide +kernel
theorem d27_119 : decode prog_24_method_5_code 119 = .ok (.aload_n 0, 1) := by decide +kernel
theorem d27_120 : decode prog_24_method_5_code 120 = .ok (.getfield 25, 3) := by decide +kernel
theorem d27_123 : decode prog_24_method_5_code 123 = .ok (.iconst 1, 1) := by decide +kernel
theorem d27_124 : decode prog_24_method_5_code 124 = .ok (.isub, 1) := by decide +kernel
theorem d27_125 : decode prog_24_method_5_code 125 = .ok (.invokevirtual 54, 3) := by decide +kernel
theorem d27_128 : decode prog_24_method_5_code 128 = .ok (.return_, 1) := by decide +kernel
theorem ef_append0 (m : MethodId) (a1 : Addr) : entryFrame m #[(.ref a1), .null] 3 = mkF m 0 #[.val (.ref a1), .val .null, .unset] [] := by first | (simp [entryFrame, mkF, argsToLocals, Value.category]; done) | rfl
def Qappend0 (Z : State) (a1 : Addr) (ar : Addr) (k : ClassId) (h0 : Heap) (n0 : Nat) (v : Option Value) (h : Heap) (L : List Loc) : Prop := v = none ∧ Fr n0 L ∧ Keep h0 h [a1, ar] ∧ (Arv Z h ar k (.object "java/lang/Object") (2 : Int32) [.null, .null] .null) ∧ (Fld Z h a1 "com/example/optimistik/optimistik/engine/IdentitySet" "elements" "[Ljava/lang/Object;" (.ref ar)) ∧ (Fld Z h a1 "com/example/optimistik/optimistik/engine/IdentitySet" "slots" "[I" .null) ∧ (Fld Z h a1 "com/example/optimistik/optimistik/engine/IdentitySet" "count" "I" (.int (1 : Int32)))
set_option maxRecDepth 65536 in
set_option maxHeartbeats 40000000 in
theorem rmappend0 (l : Launch) (Z : State) (a0 : Array Value) (hw : ∀ d ∈ tables_1, d.before a0 Z = true) (ws : List Jvm.Cond) (a1 : Addr) (ar : Addr) (k : ClassId) (h0 : Heap) (n0 : Nat) (Z0 : n0 ≤ h0.size) (E1 : Exa Z h0 a1 "com/example/optimistik/optimistik/engine/IdentitySet") (F1 : Fld Z h0 a1 "com/example/optimistik/optimistik/engine/IdentitySet" "elements" "[Ljava/lang/Object;" (.ref ar)) (F3 : Fld Z h0 a1 "com/example/optimistik/optimistik/engine/IdentitySet" "slots" "[I" .null) (F4 : Fld Z h0 a1 "com/example/optimistik/optimistik/engine/IdentitySet" "count" "I" (.int (0 : Int32))) (A1 : Arv Z h0 ar k (.object "java/lang/Object") (2 : Int32) [.null, .null] .null) (g1 : n0 ≤ a1) (ga : n0 ≤ ar) (nea : ar ≠ a1) :
    MetFree l (⟨"com/example/optimistik/optimistik/engine/IdentitySet", "append", "(Ljava/lang/Object;)V"⟩ : MethodName) (head1 (Jvm.Cond.code (⟨"com/example/optimistik/optimistik/engine/IdentitySet", "append", "(Ljava/lang/Object;)V"⟩ : MethodName) prog_24_method_5_code 3 none :: ws) ({ frames := 0, cells := 0, slots := 0, locals := 0 } : Room)) (fun a U => a = #[(.ref a1), .null] ∧ Z.Warmed39 U.vm ∧ U.heap = h0) (fun _ _ _ _ _ => True) (fun _ U o U' => ∃ v L, o = .returned v ∧ Qappend0 Z a1 ar k h0 n0 v U'.heap L ∧ FrameEnd U o U' L ({ frames := 0, cells := 0, slots := 0, locals := 0 } : Room).cells ({ frames := 0, cells := 0, slots := 0, locals := 0 } : Room).slots) := by
  refine MetFree.of_bodySF (plainFor_of_name pn_com_example_optimistik_optimistik_engine_IdentitySet) hisR ?_
  intro p e s m args below meth c s₁ Bd hml0 hP hK
  obtain ⟨rfl, hZ, hH0⟩ := hP
  have hx := Bd.exec
  have hby := Bd.bytes
  have hml : c.maxLocals = 3 := hml0
  have hown : s.vm.findClass "com/example/optimistik/optimistik/engine/IdentitySet" = some m.cls := findClass_of_methodNamed Bd.named
  have hnm := (name_of_methodNamed Bd.named Bd.method).1
  have X0 : Stand p l e ({ frames := 0, cells := 0, slots := 0, locals := 0 } : Room) s m #[(.ref a1), .null] below meth c s₁ [] 0 0 := Stand.of_body Bd
  have e0 : s₁.heap = h0 := by rw [← hH0, Bd.state]; rfl
  have N0 := Fr.nil n0
  refine own_cast (ef_append0 m a1) ?_
  show own_Go p e below (fun o U' => ∃ v L, o = .returned v ∧ Qappend0 Z a1 ar k h0 n0 v U'.heap L ∧ FrameEnd s o U' L ({ frames := 0, cells := 0, slots := 0, locals := 0 } : Room).cells ({ frames := 0, cells := 0, slots := 0, locals := 0 } : Room).slots) (s₁.setTop (mkF m 0 #[.val (.ref a1), .val .null, .unset] []))
  refine own_via (fun _ => XS.aloadN X0.here hx rfl (hb hby d27_0) rfl rfl) ?_
  show own_Go p e below _ (s₁.setTop (mkF m 1 #[.val (.ref a1), .val .null, .unset] [(.ref a1)]))
  obtain ⟨T_1, X_1, e_1, st_1⟩ := getF X0 hx hZ hown (host := "") (Or.inl (own_w hw 184 rfl)) Via.refl e0 F4 (g := (mkF m 1 #[.val (.ref a1), .val .null, .unset] [(.ref a1)])) rfl rfl (hb hby d27_1)
  refine own_via st_1 ?_
  show own_Go p e below _ (T_1.setTop (mkF m 4 #[.val (.ref a1), .val .null, .unset] [(.int (0 : Int32))]))
  refine own_via (fun _ => XS.aloadN X_1.here hx rfl (hb hby d27_4) rfl rfl) ?_
  show own_Go p e below _ (T_1.setTop (mkF m 5 #[.val (.ref a1), .val .null, .unset] [(.ref a1), (.int (0 : Int32))]))
  obtain ⟨T_2, X_2, e_2, st_2⟩ := getF X_1 hx hZ hown (host := "") (Or.inl (own_w hw 169 rfl)) Via.refl e_1 F1 (g := (mkF m 5 #[.val (.ref a1), .val .null, .unset] [(.ref a1), (.int (0 : Int32))])) rfl rfl (hb hby d27_5)
  refine own_via st_2 ?_
  show own_Go p e below _ (T_2.setTop (mkF m 8 #[.val (.ref a1), .val .null, .unset] [(.ref ar), (.int (0 : Int32))]))
  obtain ⟨cl_3, Ar_3, q_3, S_3, M_3, H_3, G_3⟩ := (id A1)
  refine own_via (X_2.arraylength hx (by rw [e_2]; exact Ar_3.1) (State.isArrayOf_alike hZ.alike Ar_3.2.1) (g := (mkF m 8 #[.val (.ref a1), .val .null, .unset] [(.ref ar), (.int (0 : Int32))])) rfl rfl (hb hby d27_8)) ?_
  rw [len_of S_3 M_3]
  show own_Go p e below _ (T_2.setTop (mkF m 9 #[.val (.ref a1), .val .null, .unset] [(.int (2 : Int32)), (.int (0 : Int32))]))
  refine own_via (fun _ => XS.icmpYes X_2.here hx rfl (pc0 := 9) (pc' := 29) rfl (hb hby d27_9) rfl (feq ((by decide) : ¬ ((0 : Int32) = (2 : Int32)))).2 (by decide) (by decide)) ?_
  show own_Go p e below _ (T_2.setTop (mkF m 29 #[.val (.ref a1), .val .null, .unset] []))
  refine own_via (fun _ => XS.aloadN X_2.here hx rfl (hb hby d27_29) rfl rfl) ?_
  show own_Go p e below _ (T_2.setTop (mkF m 30 #[.val (.ref a1), .val .null, .unset] [(.ref a1)]))
  obtain ⟨T_4, X_4, e_4, st_4⟩ := getF X_2 hx hZ hown (host := "") (Or.inl (own_w hw 169 rfl)) Via.refl e_2 F1 (g := (mkF m 30 #[.val (.ref a1), .val .null, .unset] [(.ref a1)])) rfl rfl (hb hby d27_30)
  refine own_via st_4 ?_
  show own_Go p e below _ (T_4.setTop (mkF m 33 #[.val (.ref a1), .val .null, .unset] [(.ref ar)]))
  refine own_via (fun _ => XS.aloadN X_4.here hx rfl (hb hby d27_33) rfl rfl) ?_
  show own_Go p e below _ (T_4.setTop (mkF m 34 #[.val (.ref a1), .val .null, .unset] [(.ref a1), (.ref ar)]))
  obtain ⟨T_5, X_5, e_5, st_5⟩ := getF X_4 hx hZ hown (host := "") (Or.inl (own_w hw 184 rfl)) Via.refl e_4 F4 (g := (mkF m 34 #[.val (.ref a1), .val .null, .unset] [(.ref a1), (.ref ar)])) rfl rfl (hb hby d27_34)
  refine own_via st_5 ?_
  show own_Go p e below _ (T_5.setTop (mkF m 37 #[.val (.ref a1), .val .null, .unset] [(.int (0 : Int32)), (.ref ar)]))
  refine own_via (fun _ => XS.aloadN X_5.here hx rfl (hb hby d27_37) rfl rfl) ?_
  show own_Go p e below _ (T_5.setTop (mkF m 38 #[.val (.ref a1), .val .null, .unset] [.null, (.int (0 : Int32)), (.ref ar)]))
  obtain ⟨cl_6, Ar_6, q_6, S_6, M_6, H_6, G_6⟩ := (id A1)
  obtain ⟨T_6, h_6, X_6, e_6, W_6, st_6⟩ := stR X_5 hx hZ e_5 Ar_6 (j := (0 : Int32)) (inb_of S_6 ⟨by decide, by decide⟩) rfl (Or.inl rfl) (g := (mkF m 38 #[.val (.ref a1), .val .null, .unset] [.null, (.int (0 : Int32)), (.ref ar)])) rfl rfl (hb hby d27_38)
  have V_6 : Arv Z h_6 ar k (.object "java/lang/Object") (2 : Int32) [.null, .null] .null := Arv.set Ar_6 q_6 S_6 M_6 H_6 G_6 rfl W_6 0 rfl (Nat.le_of_ble_eq_true rfl)
  have N_6 := Fr.snoc X_6 N0 ga
  refine own_via st_6 ?_
  show own_Go p e below _ (T_6.setTop (mkF m 39 #[.val (.ref a1), .val .null, .unset] []))
  refine own_via (fun _ => XS.aloadN X_6.here hx rfl (hb hby d27_39) rfl rfl) ?_
  show own_Go p e below _ (T_6.setTop (mkF m 40 #[.val (.ref a1), .val .null, .unset] [(.ref a1)]))
  refine own_via (fun _ => XS.dup X_6.here hx rfl (hb hby d27_40) rfl rfl) ?_
  show own_Go p e below _ (T_6.setTop (mkF m 41 #[.val (.ref a1), .val .null, .unset] [(.ref a1), (.ref a1)]))
  have K_7 : Keep h0 h_6 [ar] := Keep.wr (ws := [ar]) (own_keep_mono (Keep.refl h0 []) (by simp)) W_6 (Or.inl (List.mem_of_getElem? (i := 0) rfl))
  obtain ⟨T_8, X_8, e_8, st_8⟩ := getF X_6 hx hZ hown (host := "") (Or.inl (own_w hw 184 rfl)) Via.refl e_6 (F4.keep K_7 (ninS (Ne.symm nea) nin0)) (g := (mkF m 41 #[.val (.ref a1), .val .null, .unset] [(.ref a1), (.ref a1)])) rfl rfl (hb hby d27_41)
  refine own_via st_8 ?_
  show own_Go p e below _ (T_8.setTop (mkF m 44 #[.val (.ref a1), .val .null, .unset] [(.int (0 : Int32)), (.ref a1)]))
  refine own_via (fun _ => XS.iconst X_8.here hx rfl (hb hby d27_44)) ?_
  show own_Go p e below _ (T_8.setTop (mkF m 45 #[.val (.ref a1), .val .null, .unset] [(.int (1 : Int32)), (.int (0 : Int32)), (.ref a1)]))
  refine own_via (fun _ => XS.iadd X_8.here hx rfl (hb hby d27_45) rfl) ?_
  show own_Go p e below _ (T_8.setTop (mkF m 46 #[.val (.ref a1), .val .null, .unset] [(.int (1 : Int32)), (.ref a1)]))
  obtain ⟨T_9, h_9, X_9, e_9, W_9, st_9⟩ := putF X_8 hx hZ hown (host := "") (Or.inl (own_w hw 184 rfl)) Via.refl e_8 (F4.keep K_7 (ninS (Ne.symm nea) nin0)) (E1.keep K_7) (Or.inl (own_w hw 185 rfl)) (own_w hw 159 rfl) (ty := .int) (by decide) rfl rfl (g := (mkF m 46 #[.val (.ref a1), .val .null, .unset] [(.int (1 : Int32)), (.ref a1)])) rfl rfl (hb hby d27_46)
  have F_10 : Fld Z h_9 a1 "com/example/optimistik/optimistik/engine/IdentitySet" "elements" "[Ljava/lang/Object;" (.ref ar) := (F1.keep K_7 (ninS (Ne.symm nea) nin0)).other W_9 (Or.inr (slot_ne (Or.inl (own_w hw 170 rfl)) (Or.inl (own_w hw 185 rfl)) (by decide) (t := (.array (.object "java/lang/Object"))) (t' := .int) (by decide) (by decide)))
  have F_11 : Fld Z h_9 a1 "com/example/optimistik/optimistik/engine/IdentitySet" "slots" "[I" .null := (F3.keep K_7 (ninS (Ne.symm nea) nin0)).other W_9 (Or.inr (slot_ne (Or.inl (own_w hw 183 rfl)) (Or.inl (own_w hw 185 rfl)) (by decide) (t := (.array .int)) (t' := .int) (by decide) (by decide)))
  have F_12 : Fld Z h_9 a1 "com/example/optimistik/optimistik/engine/IdentitySet" "count" "I" (.int (1 : Int32)) := (F4.keep K_7 (ninS (Ne.symm nea) nin0)).same W_9
  have N_9 := Fr.snoc X_9 N_6 g1
  refine own_via st_9 ?_
  show own_Go p e below _ (T_9.setTop (mkF m 49 #[.val (.ref a1), .val .null, .unset] []))
  refine own_via (fun _ => XS.aloadN X_9.here hx rfl (hb hby d27_49) rfl rfl) ?_
  show own_Go p e below _ (T_9.setTop (mkF m 50 #[.val (.ref a1), .val .null, .unset] [(.ref a1)]))
  obtain ⟨T_13, X_13, e_13, st_13⟩ := getF X_9 hx hZ hown (host := "") (Or.inl (own_w hw 184 rfl)) Via.refl e_9 F_12 (g := (mkF m 50 #[.val (.ref a1), .val .null, .unset] [(.ref a1)])) rfl rfl (hb hby d27_50)
  refine own_via st_13 ?_
  show own_Go p e below _ (T_13.setTop (mkF m 53 #[.val (.ref a1), .val .null, .unset] [(.int (1 : Int32))]))
  refine own_via (fun _ => XS.bipush X_13.here hx rfl (hb hby d27_53)) ?_
  show own_Go p e below _ (T_13.setTop (mkF m 55 #[.val (.ref a1), .val .null, .unset] [(.int (8 : Int32)), (.int (1 : Int32))]))
  refine own_via (fun _ => XS.icmpYes X_13.here hx rfl (pc0 := 55) (pc' := 128) rfl (hb hby d27_55) rfl (flt ((by decide) : ¬ ((8 : Int32) < (1 : Int32)))).2.2.2 (by decide) (by decide)) ?_
  show own_Go p e below _ (T_13.setTop (mkF m 128 #[.val (.ref a1), .val .null, .unset] []))
  have K_14 : Keep h_6 h_9 [a1] := Keep.wr (ws := [a1]) (own_keep_mono (Keep.refl h_6 []) (by simp)) W_9 (Or.inl (List.mem_of_getElem? (i := 0) rfl))
  have K_15 : Keep h0 h_9 [ar, a1] := Keep.wr (ws := [ar, a1]) (own_keep_mono K_7 (by simp)) W_9 (Or.inl (List.mem_of_getElem? (i := 1) rfl))
  exact own_ret0 X_13 Bd.notSynchronized hx Bd.returns (hb hby d27_128) (by decide) (by decide) (by rw [e_13]; exact ⟨rfl, N_9, (own_keep_mono K_15 (by simp)), (V_6.keep K_14 (ninS nea nin0)), F_10, F_11, F_12⟩)
theorem d25_0 : decode prog_24_method_2_code 0 = .ok (.aload_n 0, 1) := by decide +kernel
theorem d25_1 : decode prog_24_method_2_code 1 = .ok (.aload_n 1, 1) := by decide +kernel
theorem d25_2 : decode prog_24_method_2_code 2 = .ok (.invokevirtual 17, 3) := by decide +kernel
theorem d25_5 : decode prog_24_method_2_code 5 = .ok (.ifCond .ne 7, 3) := by decide +kernel
theorem d25_8 : decode prog_24_method_2_code 8 = .ok (.iconst 1, 1) := by decide +kernel
theorem d25_9 : decode prog_24_method_2_code 9 = .ok (.goto 4, 3) := by decide +kernel
theorem d25_12 : decode prog_24_method_2_code 12 = .ok (.iconst 0, 1) := by decide +kernel
theorem d25_13 : decode prog_24_method_2_code 13 = .ok (.istore_n 2, 1) := by decide +kernel
theorem d25_14 : decode prog_24_method_2_code 14 = .ok (.iload_n 2, 1) := by decide +kernel
theorem d25_15 : decode prog_24_method_2_code 15 = .ok (.ifCond .eq 8, 3) := by decide +kernel
theorem d25_18 : decode prog_24_method_2_code 18 = .ok (.aload_n 0, 1) := by decide +kernel
theorem d25_19 : decode prog_24_method_2_code 19 = .ok (.aload_n 1, 1) := by decide +kernel
theorem d25_20 : decode prog_24_method_2_code 20 = .ok (.invokevirtual 21, 3) := by decide +kernel
theorem d25_23 : decode prog_24_method_2_code 23 = .ok (.iload_n 2, 1) := by decide +kernel
theorem d25_24 : decode prog_24_method_2_code 24 = .ok (.ireturn, 1) := by decide +kernel
theorem pd_6 : parseMethodDescriptor "(Ljava/lang/Object;)Z" = some ⟨[(.object "java/lang/Object")], some .boolean⟩ := by decide +kernel
theorem pd_7 : parseMethodDescriptor "(Ljava/lang/Object;)V" = some ⟨[(.object "java/lang/Object")], none⟩ := by decide +kernel
theorem ef_addN (m : MethodId) (a1 : Addr) : entryFrame m #[(.ref a1), .null] 3 = mkF m 0 #[.val (.ref a1), .val .null, .unset] [] := by first | (simp [entryFrame, mkF, argsToLocals, Value.category]; done) | rfl
def QaddN (Z : State) (a1 : Addr) (ar : Addr) (k : ClassId) (h0 : Heap) (n0 : Nat) (v : Option Value) (h : Heap) (L : List Loc) : Prop := v = some (.int (1 : Int32)) ∧ Fr n0 L ∧ Keep h0 h [a1, ar] ∧ (Arv Z h ar k (.object "java/lang/Object") (2 : Int32) [.null, .null] .null) ∧ (Fld Z h a1 "com/example/optimistik/optimistik/engine/IdentitySet" "elements" "[Ljava/lang/Object;" (.ref ar)) ∧ (Fld Z h a1 "com/example/optimistik/optimistik/engine/IdentitySet" "slots" "[I" .null) ∧ (Fld Z h a1 "com/example/optimistik/optimistik/engine/IdentitySet" "count" "I" (.int (1 : Int32)))
set_option maxRecDepth 65536 in
set_option maxHeartbeats 40000000 in
theorem rmaddN (l : Launch) (Z : State) (a0 : Array Value) (hw : ∀ d ∈ tables_1, d.before a0 Z = true) (ws : List Jvm.Cond) (a1 : Addr) (ar : Addr) (k : ClassId) (h0 : Heap) (n0 : Nat) (Z0 : n0 ≤ h0.size) (E1 : Exa Z h0 a1 "com/example/optimistik/optimistik/engine/IdentitySet") (F1 : Fld Z h0 a1 "com/example/optimistik/optimistik/engine/IdentitySet" "elements" "[Ljava/lang/Object;" (.ref ar)) (F3 : Fld Z h0 a1 "com/example/optimistik/optimistik/engine/IdentitySet" "slots" "[I" .null) (F4 : Fld Z h0 a1 "com/example/optimistik/optimistik/engine/IdentitySet" "count" "I" (.int (0 : Int32))) (A1 : Arv Z h0 ar k (.object "java/lang/Object") (2 : Int32) [.null, .null] .null) (g1 : n0 ≤ a1) (ga : n0 ≤ ar) (nea : ar ≠ a1) :
    MetFree l (⟨"com/example/optimistik/optimistik/engine/IdentitySet", "add", "(Ljava/lang/Object;)Z"⟩ : MethodName) (head1 (Jvm.Cond.code (⟨"com/example/optimistik/optimistik/engine/IdentitySet", "add", "(Ljava/lang/Object;)Z"⟩ : MethodName) prog_24_method_2_code 3 (some .boolean) :: ws) ({ frames := 1, cells := 0, slots := 0, locals := 17 } : Room)) (fun a U => a = #[(.ref a1), .null] ∧ Z.Warmed39 U.vm ∧ U.heap = h0) (fun _ _ _ _ _ => True) (fun _ U o U' => ∃ v L, o = .returned v ∧ QaddN Z a1 ar k h0 n0 v U'.heap L ∧ FrameEnd U o U' L ({ frames := 1, cells := 0, slots := 0, locals := 17 } : Room).cells ({ frames := 1, cells := 0, slots := 0, locals := 17 } : Room).slots) := by
  refine MetFree.of_bodySF (plainFor_of_name pn_com_example_optimistik_optimistik_engine_IdentitySet) hisR ?_
  intro p e s m args below meth c s₁ Bd hml0 hP hK
  obtain ⟨rfl, hZ, hH0⟩ := hP
  have hx := Bd.exec
  have hby := Bd.bytes
  have hml : c.maxLocals = 3 := hml0
  have hown : s.vm.findClass "com/example/optimistik/optimistik/engine/IdentitySet" = some m.cls := findClass_of_methodNamed Bd.named
  have hnm := (name_of_methodNamed Bd.named Bd.method).1
  have X0 : Stand p l e ({ frames := 1, cells := 0, slots := 0, locals := 17 } : Room) s m #[(.ref a1), .null] below meth c s₁ [] 0 0 := Stand.of_body Bd
  have e0 : s₁.heap = h0 := by rw [← hH0, Bd.state]; rfl
  have N0 := Fr.nil n0
  refine own_cast (ef_addN m a1) ?_
  show own_Go p e below (fun o U' => ∃ v L, o = .returned v ∧ QaddN Z a1 ar k h0 n0 v U'.heap L ∧ FrameEnd s o U' L ({ frames := 1, cells := 0, slots := 0, locals := 17 } : Room).cells ({ frames := 1, cells := 0, slots := 0, locals := 17 } : Room).slots) (s₁.setTop (mkF m 0 #[.val (.ref a1), .val .null, .unset] []))
  refine own_via (fun _ => XS.aloadN X0.here hx rfl (hb hby d25_0) rfl rfl) ?_
  show own_Go p e below _ (s₁.setTop (mkF m 1 #[.val (.ref a1), .val .null, .unset] [(.ref a1)]))
  refine own_via (fun _ => XS.aloadN X0.here hx rfl (hb hby d25_1) rfl rfl) ?_
  show own_Go p e below _ (s₁.setTop (mkF m 2 #[.val (.ref a1), .val .null, .unset] [.null, (.ref a1)]))
  obtain ⟨cq_1, q_1, q_1'⟩ := E1.cell
  obtain ⟨_, _, ⟨T_1, L_1, k_1, n_1⟩, -, X_1, ⟨Lc_1, hQ_1, l_1, y_1, z_1⟩, st_1⟩ := X0.privateBack hx (y := (⟨"com/example/optimistik/optimistik/engine/IdentitySet", "contains", "(Ljava/lang/Object;)Z"⟩ : MethodName)) hown (mvT hZ (own_w hw 178 rfl)) (mvT hZ (own_w hw 179 rfl)) (own_selP (mv hZ (own_w hw 159 rfl) (args := #[])) (Cond.privateMethod_at (mvP hZ (own_w hw 180 rfl) (args := #[]))) (mvT hZ (own_w hw 179 rfl)) (by decide)) (Cond.privateMethod_at (mvP hZ (own_w hw 180 rfl) (args := #[]))) (mvT hZ (own_w hw 181 rfl)) (by decide) (backOf (W := 0) (rmcontains0 l Z a0 hw [] a1 h0 n0 Z0 F3 F4) hZ (own_w hw 181 rfl) (own_w hw 160 rfl) (by decide) (by decide)) (g := (mkF m 2 #[.val (.ref a1), .val .null, .unset] [.null, (.ref a1)])) rfl (by rw [hml]; rfl) (Steps.refl _) (a := a1) (by rw [e0]; exact q_1) q_1' (argsL := [.null]) (rest := []) (lenOf pd_6 rfl) rfl (by show 2 * 0 + _ ≤ _; exact Nat.le_of_eq rfl) (hb hby d25_2) (fun _ _ => ⟨rfl, e0, (by decide : 0 + 0 ≤ _), (by decide : 0 + 0 ≤ _)⟩)
  dsimp only [Pt.U, Pt.locs, Pt.cells, Pt.slots] at X_1 l_1 y_1 z_1 st_1 hQ_1
  subst l_1 y_1 z_1
  obtain ⟨rfl, Nq_1, e_1⟩ := hQ_1
  have N_1 := Fr.app N0 Nq_1
  refine own_via (fun _ k => st_1.trans k) ?_
  show own_Go p e below _ (T_1.setTop (mkF m 5 #[.val (.ref a1), .val .null, .unset] [(.int (0 : Int32))]))
  refine own_via (fun _ => XS.ifNo X_1.here hx rfl (hb hby d25_5) rfl ((if0 _ _).trans (teq ((by decide) : (0 : Int32) = (0 : Int32))).2)) ?_
  show own_Go p e below _ (T_1.setTop (mkF m 8 #[.val (.ref a1), .val .null, .unset] []))
  refine own_via (fun _ => XS.iconst X_1.here hx rfl (hb hby d25_8)) ?_
  show own_Go p e below _ (T_1.setTop (mkF m 9 #[.val (.ref a1), .val .null, .unset] [(.int (1 : Int32))]))
  refine own_via (fun _ => XS.goto X_1.here hx rfl (pc0 := 9) (pc' := 13) rfl (hb hby d25_9) (by decide) (by decide)) ?_
  show own_Go p e below _ (T_1.setTop (mkF m 13 #[.val (.ref a1), .val .null, .unset] [(.int (1 : Int32))]))
  refine own_via (fun _ => XS.istoreN X_1.here hx rfl (hb hby d25_13) rfl (l' := #[.val (.ref a1), .val .null, .val (.int (1 : Int32))]) rfl) ?_
  show own_Go p e below _ (T_1.setTop (mkF m 14 #[.val (.ref a1), .val .null, .val (.int (1 : Int32))] []))
  refine own_via (fun _ => XS.iloadN X_1.here hx rfl (hb hby d25_14) rfl) ?_
  show own_Go p e below _ (T_1.setTop (mkF m 15 #[.val (.ref a1), .val .null, .val (.int (1 : Int32))] [(.int (1 : Int32))]))
  refine own_via (fun _ => XS.ifNo X_1.here hx rfl (hb hby d25_15) rfl ((if0 _ _).trans (feq ((by decide) : ¬ ((1 : Int32) = (0 : Int32)))).1)) ?_
  show own_Go p e below _ (T_1.setTop (mkF m 18 #[.val (.ref a1), .val .null, .val (.int (1 : Int32))] []))
  refine own_via (fun _ => XS.aloadN X_1.here hx rfl (hb hby d25_18) rfl rfl) ?_
  show own_Go p e below _ (T_1.setTop (mkF m 19 #[.val (.ref a1), .val .null, .val (.int (1 : Int32))] [(.ref a1)]))
  refine own_via (fun _ => XS.aloadN X_1.here hx rfl (hb hby d25_19) rfl rfl) ?_
  show own_Go p e below _ (T_1.setTop (mkF m 20 #[.val (.ref a1), .val .null, .val (.int (1 : Int32))] [.null, (.ref a1)]))
  obtain ⟨cq_2, q_2, q_2'⟩ := E1.cell
  obtain ⟨_, _, ⟨T_2, L_2, k_2, n_2⟩, -, X_2, ⟨Lc_2, hQ_2, l_2, y_2, z_2⟩, st_2⟩ := X_1.privateBack hx (y := (⟨"com/example/optimistik/optimistik/engine/IdentitySet", "append", "(Ljava/lang/Object;)V"⟩ : MethodName)) hown (mvT hZ (own_w hw 186 rfl)) (mvT hZ (own_w hw 187 rfl)) (own_selP (mv hZ (own_w hw 159 rfl) (args := #[])) (Cond.privateMethod_at (mvP hZ (own_w hw 188 rfl) (args := #[]))) (mvT hZ (own_w hw 187 rfl)) (by decide)) (Cond.privateMethod_at (mvP hZ (own_w hw 188 rfl) (args := #[]))) (mvT hZ (own_w hw 189 rfl)) (by decide) (backOf (W := 0) (rmappend0 l Z a0 hw [] a1 ar k h0 n0 Z0 E1 F1 F3 F4 A1 g1 ga nea) hZ (own_w hw 189 rfl) (own_w hw 160 rfl) (by decide) (by decide)) (g := (mkF m 20 #[.val (.ref a1), .val .null, .val (.int (1 : Int32))] [.null, (.ref a1)])) rfl (by rw [hml]; rfl) (Steps.refl _) (a := a1) (by rw [e_1]; exact q_2) q_2' (argsL := [.null]) (rest := []) (lenOf pd_7 rfl) rfl (by show 2 * 0 + _ ≤ _; exact Nat.le_of_eq rfl) (hb hby d25_20) (fun _ _ => ⟨rfl, e_1, (by decide : 0 + 0 ≤ _), (by decide : 0 + 0 ≤ _)⟩)
  dsimp only [Pt.U, Pt.locs, Pt.cells, Pt.slots] at X_2 l_2 y_2 z_2 st_2 hQ_2
  subst l_2 y_2 z_2
  obtain ⟨rfl, Nq_2, K_2q, q_2_0, q_2_1, q_2_2, q_2_3⟩ := hQ_2
  have N_2 := Fr.app N_1 Nq_2
  refine own_via (fun _ k => st_2.trans k) ?_
  show own_Go p e below _ (T_2.setTop (mkF m 23 #[.val (.ref a1), .val .null, .val (.int (1 : Int32))] []))
  refine own_via (fun _ => XS.iloadN X_2.here hx rfl (hb hby d25_23) rfl) ?_
  show own_Go p e below _ (T_2.setTop (mkF m 24 #[.val (.ref a1), .val .null, .val (.int (1 : Int32))] [(.int (1 : Int32))]))
  have K_3 : Keep h0 T_2.heap [a1, ar] := Keep.trans (ws := [a1, ar]) (own_keep_mono (Keep.refl h0 []) (by simp)) K_2q (allS (Or.inl (List.mem_of_getElem? (i := 0) rfl)) (allS (Or.inl (List.mem_of_getElem? (i := 1) rfl)) all0))
  exact own_retv X_2 Bd.notSynchronized hx Bd.returns rfl (Or.inl ⟨rfl, (by simp), _, rfl⟩) (hb hby d25_24) (by decide) (by decide) ⟨rfl, N_2, K_3, q_2_0, q_2_1, q_2_2, q_2_3⟩
theorem ef_addO (m : MethodId) (a1 : Addr) : entryFrame m #[(.ref a1), .null] 3 = mkF m 0 #[.val (.ref a1), .val .null, .unset] [] := by first | (simp [entryFrame, mkF, argsToLocals, Value.category]; done) | rfl
def QaddO (Z : State) (a1 : Addr) (ar : Addr) (k : ClassId) (h0 : Heap) (n0 : Nat) (v : Option Value) (h : Heap) (L : List Loc) : Prop := v = some (.int (0 : Int32)) ∧ Fr n0 L ∧ h = h0
set_option maxRecDepth 65536 in
set_option maxHeartbeats 40000000 in
theorem rmaddO (l : Launch) (Z : State) (a0 : Array Value) (hw : ∀ d ∈ tables_1, d.before a0 Z = true) (ws : List Jvm.Cond) (a1 : Addr) (ar : Addr) (k : ClassId) (h0 : Heap) (n0 : Nat) (Z0 : n0 ≤ h0.size) (E1 : Exa Z h0 a1 "com/example/optimistik/optimistik/engine/IdentitySet") (F1 : Fld Z h0 a1 "com/example/optimistik/optimistik/engine/IdentitySet" "elements" "[Ljava/lang/Object;" (.ref ar)) (F3 : Fld Z h0 a1 "com/example/optimistik/optimistik/engine/IdentitySet" "slots" "[I" .null) (F4 : Fld Z h0 a1 "com/example/optimistik/optimistik/engine/IdentitySet" "count" "I" (.int (1 : Int32))) (A1 : Arv Z h0 ar k (.object "java/lang/Object") (2 : Int32) [.null, .null] .null) :
    MetFree l (⟨"com/example/optimistik/optimistik/engine/IdentitySet", "add", "(Ljava/lang/Object;)Z"⟩ : MethodName) (head1 (Jvm.Cond.code (⟨"com/example/optimistik/optimistik/engine/IdentitySet", "add", "(Ljava/lang/Object;)Z"⟩ : MethodName) prog_24_method_2_code 3 (some .boolean) :: ws) ({ frames := 1, cells := 0, slots := 0, locals := 17 } : Room)) (fun a U => a = #[(.ref a1), .null] ∧ Z.Warmed39 U.vm ∧ U.heap = h0) (fun _ _ _ _ _ => True) (fun _ U o U' => ∃ v L, o = .returned v ∧ QaddO Z a1 ar k h0 n0 v U'.heap L ∧ FrameEnd U o U' L ({ frames := 1, cells := 0, slots := 0, locals := 17 } : Room).cells ({ frames := 1, cells := 0, slots := 0, locals := 17 } : Room).slots) := by
  refine MetFree.of_bodySF (plainFor_of_name pn_com_example_optimistik_optimistik_engine_IdentitySet) hisR ?_
  intro p e s m args below meth c s₁ Bd hml0 hP hK
  obtain ⟨rfl, hZ, hH0⟩ := hP
  have hx := Bd.exec
  have hby := Bd.bytes
  have hml : c.maxLocals = 3 := hml0
  have hown : s.vm.findClass "com/example/optimistik/optimistik/engine/IdentitySet" = some m.cls := findClass_of_methodNamed Bd.named
  have hnm := (name_of_methodNamed Bd.named Bd.method).1
  have X0 : Stand p l e ({ frames := 1, cells := 0, slots := 0, locals := 17 } : Room) s m #[(.ref a1), .null] below meth c s₁ [] 0 0 := Stand.of_body Bd
  have e0 : s₁.heap = h0 := by rw [← hH0, Bd.state]; rfl
  have N0 := Fr.nil n0
  refine own_cast (ef_addO m a1) ?_
  show own_Go p e below (fun o U' => ∃ v L, o = .returned v ∧ QaddO Z a1 ar k h0 n0 v U'.heap L ∧ FrameEnd s o U' L ({ frames := 1, cells := 0, slots := 0, locals := 17 } : Room).cells ({ frames := 1, cells := 0, slots := 0, locals := 17 } : Room).slots) (s₁.setTop (mkF m 0 #[.val (.ref a1), .val .null, .unset] []))
  refine own_via (fun _ => XS.aloadN X0.here hx rfl (hb hby d25_0) rfl rfl) ?_
  show own_Go p e below _ (s₁.setTop (mkF m 1 #[.val (.ref a1), .val .null, .unset] [(.ref a1)]))
  refine own_via (fun _ => XS.aloadN X0.here hx rfl (hb hby d25_1) rfl rfl) ?_
  show own_Go p e below _ (s₁.setTop (mkF m 2 #[.val (.ref a1), .val .null, .unset] [.null, (.ref a1)]))
  obtain ⟨cq_1, q_1, q_1'⟩ := E1.cell
  obtain ⟨_, _, ⟨T_1, L_1, k_1, n_1⟩, -, X_1, ⟨Lc_1, hQ_1, l_1, y_1, z_1⟩, st_1⟩ := X0.privateBack hx (y := (⟨"com/example/optimistik/optimistik/engine/IdentitySet", "contains", "(Ljava/lang/Object;)Z"⟩ : MethodName)) hown (mvT hZ (own_w hw 178 rfl)) (mvT hZ (own_w hw 179 rfl)) (own_selP (mv hZ (own_w hw 159 rfl) (args := #[])) (Cond.privateMethod_at (mvP hZ (own_w hw 180 rfl) (args := #[]))) (mvT hZ (own_w hw 179 rfl)) (by decide)) (Cond.privateMethod_at (mvP hZ (own_w hw 180 rfl) (args := #[]))) (mvT hZ (own_w hw 181 rfl)) (by decide) (backOf (W := 0) (rmcontains1 l Z a0 hw [] a1 ar k h0 n0 Z0 F1 F3 F4 A1) hZ (own_w hw 181 rfl) (own_w hw 160 rfl) (by decide) (by decide)) (g := (mkF m 2 #[.val (.ref a1), .val .null, .unset] [.null, (.ref a1)])) rfl (by rw [hml]; rfl) (Steps.refl _) (a := a1) (by rw [e0]; exact q_1) q_1' (argsL := [.null]) (rest := []) (lenOf pd_6 rfl) rfl (by show 2 * 0 + _ ≤ _; exact Nat.le_of_eq rfl) (hb hby d25_2) (fun _ _ => ⟨rfl, e0, (by decide : 0 + 0 ≤ _), (by decide : 0 + 0 ≤ _)⟩)
  dsimp only [Pt.U, Pt.locs, Pt.cells, Pt.slots] at X_1 l_1 y_1 z_1 st_1 hQ_1
  subst l_1 y_1 z_1
  obtain ⟨rfl, Nq_1, e_1⟩ := hQ_1
  have N_1 := Fr.app N0 Nq_1
  refine own_via (fun _ k => st_1.trans k) ?_
  show own_Go p e below _ (T_1.setTop (mkF m 5 #[.val (.ref a1), .val .null, .unset] [(.int (1 : Int32))]))
  refine own_via (fun _ => XS.ifYes X_1.here hx rfl (pc0 := 5) (pc' := 12) rfl (hb hby d25_5) rfl ((if0 _ _).trans (feq ((by decide) : ¬ ((1 : Int32) = (0 : Int32)))).2) (by decide) (by decide)) ?_
  show own_Go p e below _ (T_1.setTop (mkF m 12 #[.val (.ref a1), .val .null, .unset] []))
  refine own_via (fun _ => XS.iconst X_1.here hx rfl (hb hby d25_12)) ?_
  show own_Go p e below _ (T_1.setTop (mkF m 13 #[.val (.ref a1), .val .null, .unset] [(.int (0 : Int32))]))
  refine own_via (fun _ => XS.istoreN X_1.here hx rfl (hb hby d25_13) rfl (l' := #[.val (.ref a1), .val .null, .val (.int (0 : Int32))]) rfl) ?_
  show own_Go p e below _ (T_1.setTop (mkF m 14 #[.val (.ref a1), .val .null, .val (.int (0 : Int32))] []))
  refine own_via (fun _ => XS.iloadN X_1.here hx rfl (hb hby d25_14) rfl) ?_
  show own_Go p e below _ (T_1.setTop (mkF m 15 #[.val (.ref a1), .val .null, .val (.int (0 : Int32))] [(.int (0 : Int32))]))
  refine own_via (fun _ => XS.ifYes X_1.here hx rfl (pc0 := 15) (pc' := 23) rfl (hb hby d25_15) rfl ((if0 _ _).trans (teq ((by decide) : (0 : Int32) = (0 : Int32))).1) (by decide) (by decide)) ?_
  show own_Go p e below _ (T_1.setTop (mkF m 23 #[.val (.ref a1), .val .null, .val (.int (0 : Int32))] []))
  refine own_via (fun _ => XS.iloadN X_1.here hx rfl (hb hby d25_23) rfl) ?_
  show own_Go p e below _ (T_1.setTop (mkF m 24 #[.val (.ref a1), .val .null, .val (.int (0 : Int32))] [(.int (0 : Int32))]))
  exact own_retv X_1 Bd.notSynchronized hx Bd.returns rfl (Or.inl ⟨rfl, (by simp), _, rfl⟩) (hb hby d25_24) (by decide) (by decide) (by rw [e_1]; exact ⟨rfl, N_1, rfl⟩)
theorem d22_0 : decode prog_12_method_2_code 0 = .ok (.aload_n 2, 1) := by decide +kernel
theorem d22_1 : decode prog_12_method_2_code 1 = .ok (.invokestatic 7, 3) := by decide +kernel
theorem d22_4 : decode prog_12_method_2_code 4 = .ok (.ifCond .eq 35, 3) := by decide +kernel
theorem d22_7 : decode prog_12_method_2_code 7 = .ok (.aload_n 0, 1) := by decide +kernel
theorem d22_8 : decode prog_12_method_2_code 8 = .ok (.getfield 13, 3) := by decide +kernel
theorem d22_11 : decode prog_12_method_2_code 11 = .ok (.ifnonnull 19, 3) := by decide +kernel
theorem d22_14 : decode prog_12_method_2_code 14 = .ok (.aload_n 0, 1) := by decide +kernel
theorem d22_15 : decode prog_12_method_2_code 15 = .ok (.new 17, 3) := by decide +kernel
theorem d22_18 : decode prog_12_method_2_code 18 = .ok (.dup, 1) := by decide +kernel
theorem d22_19 : decode prog_12_method_2_code 19 = .ok (.invokedynamic 19, 5) := by decide +kernel
theorem d22_24 : decode prog_12_method_2_code 24 = .ok (.invokespecial 23, 3) := by decide +kernel
theorem d22_27 : decode prog_12_method_2_code 27 = .ok (.putfield 13, 3) := by decide +kernel
theorem d22_30 : decode prog_12_method_2_code 30 = .ok (.aload_n 0, 1) := by decide +kernel
theorem d22_31 : decode prog_12_method_2_code 31 = .ok (.getfield 13, 3) := by decide +kernel
theorem d22_34 : decode prog_12_method_2_code 34 = .ok (.aload_n 1, 1) := by decide +kernel
theorem d22_35 : decode prog_12_method_2_code 35 = .ok (.invokevirtual 26, 3) := by decide +kernel
theorem d22_38 : decode prog_12_method_2_code 38 = .ok (.pop, 1) := by decide +kernel
theorem d22_39 : decode prog_12_method_2_code 39 = .ok (.return_, 1) := by decide +kernel
theorem pd_8 : parseMethodDescriptor "(Lcom/example/optimistik/optimistik/model/IsolationLevel;)Z" = some ⟨[(.object "com/example/optimistik/optimistik/model/IsolationLevel")], some .boolean⟩ := by decide +kernel
theorem pd_9 : parseMethodDescriptor "(Ljava/util/function/ToIntFunction;)V" = some ⟨[(.object "java/util/function/ToIntFunction")], none⟩ := by decide +kernel
theorem ef_readNo (m : MethodId) (a1 : Addr) (r : Addr) : entryFrame m #[(.ref a1), .null, (.ref r)] 3 = mkF m 0 #[.val (.ref a1), .val .null, .val (.ref r)] [] := by first | (simp [entryFrame, mkF, argsToLocals, Value.category]; done) | rfl
def QreadNo (Z : State) (a1 : Addr) (r : Addr) (u0 : Addr) (u1 : Addr) (u2 : Addr) (u3 : Addr) (u4 : Addr) (h0 : Heap) (n0 : Nat) (v : Option Value) (h : Heap) (L : List Loc) : Prop := v = none ∧ Fr n0 L ∧ h = h0
set_option maxRecDepth 65536 in
set_option maxHeartbeats 40000000 in
theorem rmreadNo (l : Launch) (Z : State) (a0 : Array Value) (hw : ∀ d ∈ tables_1, d.before a0 Z = true) (ws : List Jvm.Cond) (a1 : Addr) (r : Addr) (u0 : Addr) (u1 : Addr) (u2 : Addr) (u3 : Addr) (u4 : Addr) (h0 : Heap) (n0 : Nat) (Z0 : n0 ≤ h0.size) (O0 : Old Z n0 h0) (Su3 : Sta Z Z.heap "com/example/optimistik/optimistik/model/IsolationLevel" "REPEATABLE_READ" "Lcom/example/optimistik/optimistik/model/IsolationLevel;" (.ref u3)) (Su4 : Sta Z Z.heap "com/example/optimistik/optimistik/model/IsolationLevel" "SERIALIZABLE" "Lcom/example/optimistik/optimistik/model/IsolationLevel;" (.ref u4)) (h3 : r ≠ u3) (h4 : r ≠ u4) :
    MetFree l (⟨"com/example/optimistik/optimistik/engine/CommitChecks", "noteRead", "(Lcom/example/optimistik/optimistik/engine/Version;Lcom/example/optimistik/optimistik/model/IsolationLevel;)V"⟩ : MethodName) (head1 (Jvm.Cond.code (⟨"com/example/optimistik/optimistik/engine/CommitChecks", "noteRead", "(Lcom/example/optimistik/optimistik/engine/Version;Lcom/example/optimistik/optimistik/model/IsolationLevel;)V"⟩ : MethodName) prog_12_method_2_code 3 none :: ws) ({ frames := 1, cells := 0, slots := 0, locals := 15 } : Room)) (fun a U => a = #[(.ref a1), .null, (.ref r)] ∧ Z.Warmed39 U.vm ∧ U.heap = h0) (fun _ _ _ _ _ => True) (fun _ U o U' => ∃ v L, o = .returned v ∧ QreadNo Z a1 r u0 u1 u2 u3 u4 h0 n0 v U'.heap L ∧ FrameEnd U o U' L ({ frames := 1, cells := 0, slots := 0, locals := 15 } : Room).cells ({ frames := 1, cells := 0, slots := 0, locals := 15 } : Room).slots) := by
  refine MetFree.of_bodySF (plainFor_of_name pn_com_example_optimistik_optimistik_engine_CommitChecks) hisR ?_
  intro p e s m args below meth c s₁ Bd hml0 hP hK
  obtain ⟨rfl, hZ, hH0⟩ := hP
  have hx := Bd.exec
  have hby := Bd.bytes
  have hml : c.maxLocals = 3 := hml0
  have hown : s.vm.findClass "com/example/optimistik/optimistik/engine/CommitChecks" = some m.cls := findClass_of_methodNamed Bd.named
  have hnm := (name_of_methodNamed Bd.named Bd.method).1
  have X0 : Stand p l e ({ frames := 1, cells := 0, slots := 0, locals := 15 } : Room) s m #[(.ref a1), .null, (.ref r)] below meth c s₁ [] 0 0 := Stand.of_body Bd
  have e0 : s₁.heap = h0 := by rw [← hH0, Bd.state]; rfl
  have N0 := Fr.nil n0
  refine own_cast (ef_readNo m a1 r) ?_
  show own_Go p e below (fun o U' => ∃ v L, o = .returned v ∧ QreadNo Z a1 r u0 u1 u2 u3 u4 h0 n0 v U'.heap L ∧ FrameEnd s o U' L ({ frames := 1, cells := 0, slots := 0, locals := 15 } : Room).cells ({ frames := 1, cells := 0, slots := 0, locals := 15 } : Room).slots) (s₁.setTop (mkF m 0 #[.val (.ref a1), .val .null, .val (.ref r)] []))
  refine own_via (fun _ => XS.aloadN X0.here hx rfl (hb hby d22_0) rfl rfl) ?_
  show own_Go p e below _ (s₁.setTop (mkF m 1 #[.val (.ref a1), .val .null, .val (.ref r)] [(.ref r)]))
  obtain ⟨_, _, ⟨T_1, L_1, k_1, n_1⟩, -, X_1, ⟨Lc_1, hQ_1, l_1, y_1, z_1⟩, st_1⟩ := Jvm.LawKit.callS X0 hx (y := (⟨"com/example/optimistik/optimistik/engine/CommitChecks", "checksRowsRead", "(Lcom/example/optimistik/optimistik/model/IsolationLevel;)Z"⟩ : MethodName)) hown (mvT hZ (own_w hw 154 rfl)) (mvT hZ (own_w hw 155 rfl)) (mvT hZ (own_w hw 2 rfl)) (mvT hZ (own_w hw 156 rfl)) (by decide) (backOf (W := 0) (rmcrr l Z a0 hw [] r u0 u1 u2 u3 u4 h0 n0 Z0 O0 Su3 Su4) hZ (own_w hw 156 rfl) (own_w hw 2 rfl) (by decide) (by decide)) (g := (mkF m 1 #[.val (.ref a1), .val .null, .val (.ref r)] [(.ref r)])) rfl (by rw [hml]; rfl) (argsL := [(.ref r)]) (rest := []) (lenOf pd_8 rfl) rfl (by show 2 * 0 + _ ≤ _; exact Nat.le_of_eq rfl) (hb hby d22_1) (fun _ _ => ⟨rfl, e0, (by decide : 0 + 0 ≤ _), (by decide : 0 + 0 ≤ _)⟩)
  dsimp only [Pt.U, Pt.locs, Pt.cells, Pt.slots] at X_1 l_1 y_1 z_1 st_1 hQ_1
  subst l_1 y_1 z_1
  obtain ⟨i_2, rfl, Nq_1, e_1, q_1_0⟩ := hQ_1
  have N_1 := Fr.app N0 Nq_1
  refine own_via st_1 ?_
  show own_Go p e below _ (T_1.setTop (mkF m 4 #[.val (.ref a1), .val .null, .val (.ref r)] [(.int i_2)]))
  refine own_via (fun _ => XS.ifYes X_1.here hx rfl (pc0 := 4) (pc' := 39) rfl (hb hby d22_4) rfl ((if0 _ _).trans (teq (q_1_0.trans (if_neg fun q => q.elim h3 h4) : i_2 = (0 : Int32))).1) (by decide) (by decide)) ?_
  show own_Go p e below _ (T_1.setTop (mkF m 39 #[.val (.ref a1), .val .null, .val (.ref r)] []))
  exact own_ret0 X_1 Bd.notSynchronized hx Bd.returns (hb hby d22_39) (by decide) (by decide) (by rw [e_1]; exact ⟨rfl, N_1, rfl⟩)
theorem ef_readO (m : MethodId) (a1 : Addr) (r : Addr) : entryFrame m #[(.ref a1), .null, (.ref r)] 3 = mkF m 0 #[.val (.ref a1), .val .null, .val (.ref r)] [] := by first | (simp [entryFrame, mkF, argsToLocals, Value.category]; done) | rfl
def QreadO (Z : State) (a1 : Addr) (r : Addr) (is : Addr) (ar : Addr) (k : ClassId) (u0 : Addr) (u1 : Addr) (u2 : Addr) (u3 : Addr) (u4 : Addr) (h0 : Heap) (n0 : Nat) (v : Option Value) (h : Heap) (L : List Loc) : Prop := v = none ∧ Fr n0 L ∧ h = h0
set_option maxRecDepth 65536 in
set_option maxHeartbeats 40000000 in
theorem rmreadO (l : Launch) (Z : State) (a0 : Array Value) (hw : ∀ d ∈ tables_1, d.before a0 Z = true) (ws : List Jvm.Cond) (a1 : Addr) (r : Addr) (is : Addr) (ar : Addr) (k : ClassId) (u0 : Addr) (u1 : Addr) (u2 : Addr) (u3 : Addr) (u4 : Addr) (h0 : Heap) (n0 : Nat) (Z0 : n0 ≤ h0.size) (O0 : Old Z n0 h0) (Su3 : Sta Z Z.heap "com/example/optimistik/optimistik/model/IsolationLevel" "REPEATABLE_READ" "Lcom/example/optimistik/optimistik/model/IsolationLevel;" (.ref u3)) (Su4 : Sta Z Z.heap "com/example/optimistik/optimistik/model/IsolationLevel" "SERIALIZABLE" "Lcom/example/optimistik/optimistik/model/IsolationLevel;" (.ref u4)) (hr : r = u3 ∨ r = u4) (Frd : Fld Z h0 a1 "com/example/optimistik/optimistik/engine/CommitChecks" "reads" "Lcom/example/optimistik/optimistik/engine/IdentitySet;" (.ref is)) (E1 : Exa Z h0 is "com/example/optimistik/optimistik/engine/IdentitySet") (F1 : Fld Z h0 is "com/example/optimistik/optimistik/engine/IdentitySet" "elements" "[Ljava/lang/Object;" (.ref ar)) (F3 : Fld Z h0 is "com/example/optimistik/optimistik/engine/IdentitySet" "slots" "[I" .null) (F4 : Fld Z h0 is "com/example/optimistik/optimistik/engine/IdentitySet" "count" "I" (.int (1 : Int32))) (A1 : Arv Z h0 ar k (.object "java/lang/Object") (2 : Int32) [.null, .null] .null) :
    MetFree l (⟨"com/example/optimistik/optimistik/engine/CommitChecks", "noteRead", "(Lcom/example/optimistik/optimistik/engine/Version;Lcom/example/optimistik/optimistik/model/IsolationLevel;)V"⟩ : MethodName) (head1 (Jvm.Cond.code (⟨"com/example/optimistik/optimistik/engine/CommitChecks", "noteRead", "(Lcom/example/optimistik/optimistik/engine/Version;Lcom/example/optimistik/optimistik/model/IsolationLevel;)V"⟩ : MethodName) prog_12_method_2_code 3 none :: ws) ({ frames := 2, cells := 0, slots := 0, locals := 32 } : Room)) (fun a U => a = #[(.ref a1), .null, (.ref r)] ∧ Z.Warmed39 U.vm ∧ U.heap = h0) (fun _ _ _ _ _ => True) (fun _ U o U' => ∃ v L, o = .returned v ∧ QreadO Z a1 r is ar k u0 u1 u2 u3 u4 h0 n0 v U'.heap L ∧ FrameEnd U o U' L ({ frames := 2, cells := 0, slots := 0, locals := 32 } : Room).cells ({ frames := 2, cells := 0, slots := 0, locals := 32 } : Room).slots) := by
  refine MetFree.of_bodySF (plainFor_of_name pn_com_example_optimistik_optimistik_engine_CommitChecks) hisR ?_
  intro p e s m args below meth c s₁ Bd hml0 hP hK
  obtain ⟨rfl, hZ, hH0⟩ := hP
  have hx := Bd.exec
  have hby := Bd.bytes
  have hml : c.maxLocals = 3 := hml0
  have hown : s.vm.findClass "com/example/optimistik/optimistik/engine/CommitChecks" = some m.cls := findClass_of_methodNamed Bd.named
  have hnm := (name_of_methodNamed Bd.named Bd.method).1
  have X0 : Stand p l e ({ frames := 2, cells := 0, slots := 0, locals := 32 } : Room) s m #[(.ref a1), .null, (.ref r)] below meth c s₁ [] 0 0 := Stand.of_body Bd
  have e0 : s₁.heap = h0 := by rw [← hH0, Bd.state]; rfl
  have N0 := Fr.nil n0
  refine own_cast (ef_readO m a1 r) ?_
  show own_Go p e below (fun o U' => ∃ v L, o = .returned v ∧ QreadO Z a1 r is ar k u0 u1 u2 u3 u4 h0 n0 v U'.heap L ∧ FrameEnd s o U' L ({ frames := 2, cells := 0, slots := 0, locals := 32 } : Room).cells ({ frames := 2, cells := 0, slots := 0, locals := 32 } : Room).slots) (s₁.setTop (mkF m 0 #[.val (.ref a1), .val .null, .val (.ref r)] []))
  refine own_via (fun _ => XS.aloadN X0.here hx rfl (hb hby d22_0) rfl rfl) ?_
  show own_Go p e below _ (s₁.setTop (mkF m 1 #[.val (.ref a1), .val .null, .val (.ref r)] [(.ref r)]))
  obtain ⟨_, _, ⟨T_1, L_1, k_1, n_1⟩, -, X_1, ⟨Lc_1, hQ_1, l_1, y_1, z_1⟩, st_1⟩ := Jvm.LawKit.callS X0 hx (y := (⟨"com/example/optimistik/optimistik/engine/CommitChecks", "checksRowsRead", "(Lcom/example/optimistik/optimistik/model/IsolationLevel;)Z"⟩ : MethodName)) hown (mvT hZ (own_w hw 154 rfl)) (mvT hZ (own_w hw 155 rfl)) (mvT hZ (own_w hw 2 rfl)) (mvT hZ (own_w hw 156 rfl)) (by decide) (backOf (W := 0) (rmcrr l Z a0 hw [] r u0 u1 u2 u3 u4 h0 n0 Z0 O0 Su3 Su4) hZ (own_w hw 156 rfl) (own_w hw 2 rfl) (by decide) (by decide)) (g := (mkF m 1 #[.val (.ref a1), .val .null, .val (.ref r)] [(.ref r)])) rfl (by rw [hml]; rfl) (argsL := [(.ref r)]) (rest := []) (lenOf pd_8 rfl) rfl (by show 2 * 0 + _ ≤ _; exact Nat.le_of_eq rfl) (hb hby d22_1) (fun _ _ => ⟨rfl, e0, (by decide : 0 + 0 ≤ _), (by decide : 0 + 0 ≤ _)⟩)
  dsimp only [Pt.U, Pt.locs, Pt.cells, Pt.slots] at X_1 l_1 y_1 z_1 st_1 hQ_1
  subst l_1 y_1 z_1
  obtain ⟨i_2, rfl, Nq_1, e_1, q_1_0⟩ := hQ_1
  have N_1 := Fr.app N0 Nq_1
  refine own_via st_1 ?_
  show own_Go p e below _ (T_1.setTop (mkF m 4 #[.val (.ref a1), .val .null, .val (.ref r)] [(.int i_2)]))
  refine own_via (fun _ => XS.ifNo X_1.here hx rfl (hb hby d22_4) rfl ((if0 _ _).trans (feq (fun q => absurd (q.symm.trans (q_1_0.trans (if_pos hr))) (by decide) : ¬ (i_2 = (0 : Int32)))).1)) ?_
  show own_Go p e below _ (T_1.setTop (mkF m 7 #[.val (.ref a1), .val .null, .val (.ref r)] []))
  refine own_via (fun _ => XS.aloadN X_1.here hx rfl (hb hby d22_7) rfl rfl) ?_
  show own_Go p e below _ (T_1.setTop (mkF m 8 #[.val (.ref a1), .val .null, .val (.ref r)] [(.ref a1)]))
  obtain ⟨T_3, X_3, e_3, st_3⟩ := getF X_1 hx hZ hown (host := "") (Or.inl (own_w hw 14 rfl)) Via.refl e_1 Frd (g := (mkF m 8 #[.val (.ref a1), .val .null, .val (.ref r)] [(.ref a1)])) rfl rfl (hb hby d22_8)
  refine own_via st_3 ?_
  show own_Go p e below _ (T_3.setTop (mkF m 11 #[.val (.ref a1), .val .null, .val (.ref r)] [(.ref is)]))
  refine own_via (fun _ => XS.ifnonnullYes X_3.here hx rfl (pc0 := 11) (pc' := 30) rfl (hb hby d22_11) rfl (by decide) (by decide)) ?_
  show own_Go p e below _ (T_3.setTop (mkF m 30 #[.val (.ref a1), .val .null, .val (.ref r)] []))
  refine own_via (fun _ => XS.aloadN X_3.here hx rfl (hb hby d22_30) rfl rfl) ?_
  show own_Go p e below _ (T_3.setTop (mkF m 31 #[.val (.ref a1), .val .null, .val (.ref r)] [(.ref a1)]))
  obtain ⟨T_4, X_4, e_4, st_4⟩ := getF X_3 hx hZ hown (host := "") (Or.inl (own_w hw 14 rfl)) Via.refl e_3 Frd (g := (mkF m 31 #[.val (.ref a1), .val .null, .val (.ref r)] [(.ref a1)])) rfl rfl (hb hby d22_31)
  refine own_via st_4 ?_
  show own_Go p e below _ (T_4.setTop (mkF m 34 #[.val (.ref a1), .val .null, .val (.ref r)] [(.ref is)]))
  refine own_via (fun _ => XS.aloadN X_4.here hx rfl (hb hby d22_34) rfl rfl) ?_
  show own_Go p e below _ (T_4.setTop (mkF m 35 #[.val (.ref a1), .val .null, .val (.ref r)] [.null, (.ref is)]))
  obtain ⟨cq_5, kq_5, q_5a, q_5b, q_5c⟩ := isOf hZ e_4 E1
  obtain ⟨_, _, ⟨T_5, L_5, k_5, n_5⟩, -, X_5, ⟨Lc_5, hQ_5, l_5, y_5, z_5⟩, st_5⟩ := X_4.virtualBack hx (y := (⟨"com/example/optimistik/optimistik/engine/IdentitySet", "add", "(Ljava/lang/Object;)Z"⟩ : MethodName)) (z := (⟨"com/example/optimistik/optimistik/engine/IdentitySet", "add", "(Ljava/lang/Object;)Z"⟩ : MethodName)) hown (mvT hZ (own_w hw 173 rfl)) (mvT hZ (own_w hw 174 rfl)) (notFace_of_selects (args := #[]) (mvT hZ (own_w hw 176 rfl))) (mvT hZ (own_w hw 176 rfl)) (mvT hZ (own_w hw 175 rfl)) (by decide) (backOf (W := 0) (rmaddO l Z a0 hw [] is ar k h0 n0 Z0 E1 F1 F3 F4 A1) hZ (own_w hw 177 rfl) (own_w hw 160 rfl) (by decide) (by decide)) q_5a q_5c (g := (mkF m 35 #[.val (.ref a1), .val .null, .val (.ref r)] [.null, (.ref is)])) rfl (by rw [hml]; rfl) (Steps.refl _) (argsL := [.null]) (rest := []) (lenOf pd_6 rfl) rfl (by show 2 * 0 + _ ≤ _; exact Nat.le_of_eq rfl) (hb hby d22_35) (fun _ _ => ⟨rfl, e_4, (by decide : 0 + 0 ≤ _), (by decide : 0 + 0 ≤ _)⟩)
  dsimp only [Pt.U, Pt.locs, Pt.cells, Pt.slots] at X_5 l_5 y_5 z_5 st_5 hQ_5
  subst l_5 y_5 z_5
  obtain ⟨rfl, Nq_5, e_5⟩ := hQ_5
  have N_5 := Fr.app N_1 Nq_5
  refine own_via (fun _ k => st_5.trans k) ?_
  show own_Go p e below _ (T_5.setTop (mkF m 38 #[.val (.ref a1), .val .null, .val (.ref r)] [(.int (0 : Int32))]))
  refine own_via (fun _ => XS.pop X_5.here hx rfl (hb hby d22_38) rfl rfl) ?_
  show own_Go p e below _ (T_5.setTop (mkF m 39 #[.val (.ref a1), .val .null, .val (.ref r)] []))
  exact own_ret0 X_5 Bd.notSynchronized hx Bd.returns (hb hby d22_39) (by decide) (by decide) (by rw [e_5]; exact ⟨rfl, N_5, rfl⟩)
theorem ef_readN (m : MethodId) (a1 : Addr) (r : Addr) : entryFrame m #[(.ref a1), .null, (.ref r)] 3 = mkF m 0 #[.val (.ref a1), .val .null, .val (.ref r)] [] := by first | (simp [entryFrame, mkF, argsToLocals, Value.category]; done) | rfl
def QreadN (Z : State) (a1 : Addr) (r : Addr) (sv : Value) (iv : Value) (u0 : Addr) (u1 : Addr) (u2 : Addr) (u3 : Addr) (u4 : Addr) (h0 : Heap) (n0 : Nat) (v : Option Value) (h : Heap) (L : List Loc) : Prop := ∃ is : Addr, ∃ ar : Addr, ∃ k : ClassId, v = none ∧ Fr n0 L ∧ Keep h0 h [a1] ∧ (h0.size ≤ is) ∧ (h0.size ≤ ar) ∧ (ar ≠ is) ∧ (Exa Z h is "com/example/optimistik/optimistik/engine/IdentitySet") ∧ (Arv Z h ar k (.object "java/lang/Object") (2 : Int32) [.null, .null] .null) ∧ (Fld Z h is "com/example/optimistik/optimistik/engine/IdentitySet" "elements" "[Ljava/lang/Object;" (.ref ar)) ∧ (Fld Z h is "com/example/optimistik/optimistik/engine/IdentitySet" "slots" "[I" .null) ∧ (Fld Z h is "com/example/optimistik/optimistik/engine/IdentitySet" "count" "I" (.int (1 : Int32))) ∧ (Fld Z h a1 "com/example/optimistik/optimistik/engine/CommitChecks" "reads" "Lcom/example/optimistik/optimistik/engine/IdentitySet;" (.ref is)) ∧ (Fld Z h a1 "com/example/optimistik/optimistik/engine/CommitChecks" "scans" "Ljava/util/List;" sv) ∧ (Fld Z h a1 "com/example/optimistik/optimistik/engine/CommitChecks" "inserted" "Ljava/util/List;" iv)
set_option maxRecDepth 65536 in
set_option maxHeartbeats 40000000 in
theorem rmreadN (l : Launch) (Z : State) (a0 : Array Value) (hw : ∀ d ∈ tables_1, d.before a0 Z = true) (ws : List Jvm.Cond) (a1 : Addr) (r : Addr) (sv : Value) (iv : Value) (u0 : Addr) (u1 : Addr) (u2 : Addr) (u3 : Addr) (u4 : Addr) (h0 : Heap) (n0 : Nat) (Z0 : n0 ≤ h0.size) (O0 : Old Z n0 h0) (Su3 : Sta Z Z.heap "com/example/optimistik/optimistik/model/IsolationLevel" "REPEATABLE_READ" "Lcom/example/optimistik/optimistik/model/IsolationLevel;" (.ref u3)) (Su4 : Sta Z Z.heap "com/example/optimistik/optimistik/model/IsolationLevel" "SERIALIZABLE" "Lcom/example/optimistik/optimistik/model/IsolationLevel;" (.ref u4)) (hr : r = u3 ∨ r = u4) (E1 : Exa Z h0 a1 "com/example/optimistik/optimistik/engine/CommitChecks") (Frd : Fld Z h0 a1 "com/example/optimistik/optimistik/engine/CommitChecks" "reads" "Lcom/example/optimistik/optimistik/engine/IdentitySet;" .null) (Fsc : Fld Z h0 a1 "com/example/optimistik/optimistik/engine/CommitChecks" "scans" "Ljava/util/List;" sv) (Fin : Fld Z h0 a1 "com/example/optimistik/optimistik/engine/CommitChecks" "inserted" "Ljava/util/List;" iv) (g1 : n0 ≤ a1) :
    MetFree l (⟨"com/example/optimistik/optimistik/engine/CommitChecks", "noteRead", "(Lcom/example/optimistik/optimistik/engine/Version;Lcom/example/optimistik/optimistik/model/IsolationLevel;)V"⟩ : MethodName) (head1 (Jvm.Cond.code (⟨"com/example/optimistik/optimistik/engine/CommitChecks", "noteRead", "(Lcom/example/optimistik/optimistik/engine/Version;Lcom/example/optimistik/optimistik/model/IsolationLevel;)V"⟩ : MethodName) prog_12_method_2_code 3 none :: ws) ({ frames := 2, cells := 2, slots := 6, locals := 3080 } : Room)) (fun a U => a = #[(.ref a1), .null, (.ref r)] ∧ Z.Warmed39 U.vm ∧ U.heap = h0) (fun _ _ _ _ _ => True) (fun _ U o U' => ∃ v L, o = .returned v ∧ QreadN Z a1 r sv iv u0 u1 u2 u3 u4 h0 n0 v U'.heap L ∧ FrameEnd U o U' L ({ frames := 2, cells := 2, slots := 6, locals := 3080 } : Room).cells ({ frames := 2, cells := 2, slots := 6, locals := 3080 } : Room).slots) := by
  refine MetFree.of_bodySF (plainFor_of_name pn_com_example_optimistik_optimistik_engine_CommitChecks) hisR ?_
  intro p e s m args below meth c s₁ Bd hml0 hP hK
  obtain ⟨rfl, hZ, hH0⟩ := hP
  have hx := Bd.exec
  have hby := Bd.bytes
  have hml : c.maxLocals = 3 := hml0
  have hown : s.vm.findClass "com/example/optimistik/optimistik/engine/CommitChecks" = some m.cls := findClass_of_methodNamed Bd.named
  have hnm := (name_of_methodNamed Bd.named Bd.method).1
  have X0 : Stand p l e ({ frames := 2, cells := 2, slots := 6, locals := 3080 } : Room) s m #[(.ref a1), .null, (.ref r)] below meth c s₁ [] 0 0 := Stand.of_body Bd
  have e0 : s₁.heap = h0 := by rw [← hH0, Bd.state]; rfl
  have N0 := Fr.nil n0
  refine own_cast (ef_readN m a1 r) ?_
  show own_Go p e below (fun o U' => ∃ v L, o = .returned v ∧ QreadN Z a1 r sv iv u0 u1 u2 u3 u4 h0 n0 v U'.heap L ∧ FrameEnd s o U' L ({ frames := 2, cells := 2, slots := 6, locals := 3080 } : Room).cells ({ frames := 2, cells := 2, slots := 6, locals := 3080 } : Room).slots) (s₁.setTop (mkF m 0 #[.val (.ref a1), .val .null, .val (.ref r)] []))
  refine own_via (fun _ => XS.aloadN X0.here hx rfl (hb hby d22_0) rfl rfl) ?_
  show own_Go p e below _ (s₁.setTop (mkF m 1 #[.val (.ref a1), .val .null, .val (.ref r)] [(.ref r)]))
  obtain ⟨_, _, ⟨T_1, L_1, k_1, n_1⟩, -, X_1, ⟨Lc_1, hQ_1, l_1, y_1, z_1⟩, st_1⟩ := Jvm.LawKit.callS X0 hx (y := (⟨"com/example/optimistik/optimistik/engine/CommitChecks", "checksRowsRead", "(Lcom/example/optimistik/optimistik/model/IsolationLevel;)Z"⟩ : MethodName)) hown (mvT hZ (own_w hw 154 rfl)) (mvT hZ (own_w hw 155 rfl)) (mvT hZ (own_w hw 2 rfl)) (mvT hZ (own_w hw 156 rfl)) (by decide) (backOf (W := 0) (rmcrr l Z a0 hw [] r u0 u1 u2 u3 u4 h0 n0 Z0 O0 Su3 Su4) hZ (own_w hw 156 rfl) (own_w hw 2 rfl) (by decide) (by decide)) (g := (mkF m 1 #[.val (.ref a1), .val .null, .val (.ref r)] [(.ref r)])) rfl (by rw [hml]; rfl) (argsL := [(.ref r)]) (rest := []) (lenOf pd_8 rfl) rfl (by show 2 * 0 + _ ≤ _; exact Nat.le_of_eq rfl) (hb hby d22_1) (fun _ _ => ⟨rfl, e0, (by decide : 0 + 0 ≤ _), (by decide : 0 + 0 ≤ _)⟩)
  dsimp only [Pt.U, Pt.locs, Pt.cells, Pt.slots] at X_1 l_1 y_1 z_1 st_1 hQ_1
  subst l_1 y_1 z_1
  obtain ⟨i_2, rfl, Nq_1, e_1, q_1_0⟩ := hQ_1
  have N_1 := Fr.app N0 Nq_1
  refine own_via st_1 ?_
  show own_Go p e below _ (T_1.setTop (mkF m 4 #[.val (.ref a1), .val .null, .val (.ref r)] [(.int i_2)]))
  refine own_via (fun _ => XS.ifNo X_1.here hx rfl (hb hby d22_4) rfl ((if0 _ _).trans (feq (fun q => absurd (q.symm.trans (q_1_0.trans (if_pos hr))) (by decide) : ¬ (i_2 = (0 : Int32)))).1)) ?_
  show own_Go p e below _ (T_1.setTop (mkF m 7 #[.val (.ref a1), .val .null, .val (.ref r)] []))
  refine own_via (fun _ => XS.aloadN X_1.here hx rfl (hb hby d22_7) rfl rfl) ?_
  show own_Go p e below _ (T_1.setTop (mkF m 8 #[.val (.ref a1), .val .null, .val (.ref r)] [(.ref a1)]))
  obtain ⟨T_3, X_3, e_3, st_3⟩ := getF X_1 hx hZ hown (host := "") (Or.inl (own_w hw 14 rfl)) Via.refl e_1 Frd (g := (mkF m 8 #[.val (.ref a1), .val .null, .val (.ref r)] [(.ref a1)])) rfl rfl (hb hby d22_8)
  refine own_via st_3 ?_
  show own_Go p e below _ (T_3.setTop (mkF m 11 #[.val (.ref a1), .val .null, .val (.ref r)] [.null]))
  refine own_via (fun _ => XS.ifnonnullNo X_3.here hx rfl (hb hby d22_11) rfl) ?_
  show own_Go p e below _ (T_3.setTop (mkF m 14 #[.val (.ref a1), .val .null, .val (.ref r)] []))
  refine own_via (fun _ => XS.aloadN X_3.here hx rfl (hb hby d22_14) rfl rfl) ?_
  show own_Go p e below _ (T_3.setTop (mkF m 15 #[.val (.ref a1), .val .null, .val (.ref r)] [(.ref a1)]))
  obtain ⟨T_4, h_4, X_4, e_4, E_4, A_4, D_4, -, st_4⟩ := newO X_3 hx hZ hown (own_w hw 158 rfl) (own_w hw 159 rfl) (own_w hw 160 rfl) e_3 (g := (mkF m 15 #[.val (.ref a1), .val .null, .val (.ref r)] [(.ref a1)])) rfl (hb hby d22_15) (by decide) (by decide)
  obtain ⟨b_4, g_4⟩ : ∃ z, z = h0.size := ⟨_, rfl⟩
  rw [← g_4] at A_4 D_4 st_4
  have F_5 : Fld Z h_4 b_4 "com/example/optimistik/optimistik/engine/IdentitySet" "elements" "[Ljava/lang/Object;" .null := D_4 (Or.inl (own_w hw 170 rfl)) (ty := (.array (.object "java/lang/Object"))) (by decide)
  have F_6 : Fld Z h_4 b_4 "com/example/optimistik/optimistik/engine/IdentitySet" "hasher" "Ljava/util/function/ToIntFunction;" .null := D_4 (Or.inr (own_w hw 172 rfl)) (ty := (.object "java/util/function/ToIntFunction")) (by decide)
  have F_7 : Fld Z h_4 b_4 "com/example/optimistik/optimistik/engine/IdentitySet" "slots" "[I" .null := D_4 (Or.inl (own_w hw 183 rfl)) (ty := (.array .int)) (by decide)
  have F_8 : Fld Z h_4 b_4 "com/example/optimistik/optimistik/engine/IdentitySet" "count" "I" (.int (0 : Int32)) := D_4 (Or.inl (own_w hw 185 rfl)) (ty := .int) (by decide)
  refine own_via st_4 ?_
  show own_Go p e below _ (T_4.setTop (mkF m 18 #[.val (.ref a1), .val .null, .val (.ref r)] [(.ref b_4), (.ref a1)]))
  refine own_via (fun _ => XS.dup X_4.here hx rfl (hb hby d22_18) rfl rfl) ?_
  show own_Go p e below _ (T_4.setTop (mkF m 19 #[.val (.ref a1), .val .null, .val (.ref r)] [(.ref b_4), (.ref b_4), (.ref a1)]))
  obtain ⟨fa_9, st_9⟩ := own_lamb X_4 hx hZ (own_w hw 161 rfl) rfl Bd.named (by rw [Bd.admits.platform]) (g := (mkF m 19 #[.val (.ref a1), .val .null, .val (.ref r)] [(.ref b_4), (.ref b_4), (.ref a1)])) rfl (by rw [hml]; rfl) rfl (hb hby d22_19) (by show 2 * 0 + 3 + 3072 ≤ _; decide)
  refine own_via st_9 ?_
  show own_Go p e below _ (T_4.setTop (mkF m 24 #[.val (.ref a1), .val .null, .val (.ref r)] [(.ref fa_9), (.ref b_4), (.ref b_4), (.ref a1)]))
  have K_10 : Keep h0 h_4 [] := (Keep.refl h0 []).ext E_4
  obtain ⟨_, _, ⟨T_11, L_11, k_11, n_11⟩, -, X_11, ⟨Lc_11, hQ_11, l_11, y_11, z_11⟩, st_11⟩ := X_4.specialBack hx (y := (⟨"com/example/optimistik/optimistik/engine/IdentitySet", "<init>", "(Ljava/util/function/ToIntFunction;)V"⟩ : MethodName)) rfl hown (mvT hZ (own_w hw 164 rfl)) (mvT hZ (own_w hw 165 rfl)) (mvT hZ (own_w hw 166 rfl)) (by decide) (backOf (W := 2) (rmisInit l Z a0 hw [] b_4 fa_9 h_4 n0 (Nat.le_trans Z0 K_10.1) A_4 F_5 F_6 F_7 F_8 (Nat.le_trans Z0 (Nat.le_of_eq g_4.symm))) hZ (own_w hw 166 rfl) (own_w hw 160 rfl) (by decide) (by decide)) (g := (mkF m 24 #[.val (.ref a1), .val .null, .val (.ref r)] [(.ref fa_9), (.ref b_4), (.ref b_4), (.ref a1)])) rfl (by rw [hml]; rfl) (Steps.refl _) (a := b_4) (argsL := [(.ref fa_9)]) (rest := [(.ref b_4), (.ref a1)]) (lenOf pd_9 rfl) rfl (by show 2 * 0 + _ ≤ _; exact Nat.le_of_eq rfl) (hb hby d22_24) (fun _ _ => ⟨rfl, e_4, (by decide : 1 + 1 ≤ _), (by decide : 4 + 2 ≤ _)⟩)
  dsimp only [Pt.U, Pt.locs, Pt.cells, Pt.slots] at X_11 l_11 y_11 z_11 st_11 hQ_11
  subst l_11 y_11 z_11
  obtain ⟨r_12, u_13, rfl, Nq_11, K_11q, q_11_0, q_11_1, q_11_2, q_11_3, q_11_4⟩ := hQ_11
  have N_11 := Fr.app N_1 Nq_11
  refine own_via (fun _ k => st_11.trans k) ?_
  show own_Go p e below _ (T_11.setTop (mkF m 27 #[.val (.ref a1), .val .null, .val (.ref r)] [(.ref b_4), (.ref a1)]))
  have K_14 : Keep h0 T_11.heap [] := Keep.trans (ws := []) K_10 K_11q (allS (Or.inr (Nat.le_of_eq g_4.symm)) all0)
  obtain ⟨T_15, h_15, X_15, e_15, W_15, st_15⟩ := putF X_11 hx hZ hown (host := "") (Or.inl (own_w hw 14 rfl)) Via.refl rfl (Frd.keep K_14 nin0) (E1.keep K_14) (Or.inl (own_w hw 15 rfl)) (own_w hw 1 rfl) (ty := (.object "com/example/optimistik/optimistik/engine/IdentitySet")) (by decide) rfl rfl (g := (mkF m 27 #[.val (.ref a1), .val .null, .val (.ref r)] [(.ref b_4), (.ref a1)])) rfl rfl (hb hby d22_27)
  have F_16 : Fld Z h_15 a1 "com/example/optimistik/optimistik/engine/CommitChecks" "scans" "Ljava/util/List;" sv := (Fsc.keep K_14 nin0).other W_15 (Or.inr (slot_ne (Or.inl (own_w hw 17 rfl)) (Or.inl (own_w hw 15 rfl)) (by decide) (t := (.object "java/util/List")) (t' := (.object "com/example/optimistik/optimistik/engine/IdentitySet")) (by decide) (by decide)))
  have F_17 : Fld Z h_15 a1 "com/example/optimistik/optimistik/engine/CommitChecks" "inserted" "Ljava/util/List;" iv := (Fin.keep K_14 nin0).other W_15 (Or.inr (slot_ne (Or.inl (own_w hw 19 rfl)) (Or.inl (own_w hw 15 rfl)) (by decide) (t := (.object "java/util/List")) (t' := (.object "com/example/optimistik/optimistik/engine/IdentitySet")) (by decide) (by decide)))
  have F_18 : Fld Z h_15 a1 "com/example/optimistik/optimistik/engine/CommitChecks" "reads" "Lcom/example/optimistik/optimistik/engine/IdentitySet;" (.ref b_4) := (Frd.keep K_14 nin0).same W_15
  have N_15 := Fr.snoc X_15 N_11 g1
  refine own_via st_15 ?_
  show own_Go p e below _ (T_15.setTop (mkF m 30 #[.val (.ref a1), .val .null, .val (.ref r)] []))
  refine own_via (fun _ => XS.aloadN X_15.here hx rfl (hb hby d22_30) rfl rfl) ?_
  show own_Go p e below _ (T_15.setTop (mkF m 31 #[.val (.ref a1), .val .null, .val (.ref r)] [(.ref a1)]))
  obtain ⟨T_19, X_19, e_19, st_19⟩ := getF X_15 hx hZ hown (host := "") (Or.inl (own_w hw 14 rfl)) Via.refl e_15 F_18 (g := (mkF m 31 #[.val (.ref a1), .val .null, .val (.ref r)] [(.ref a1)])) rfl rfl (hb hby d22_31)
  refine own_via st_19 ?_
  show own_Go p e below _ (T_19.setTop (mkF m 34 #[.val (.ref a1), .val .null, .val (.ref r)] [(.ref b_4)]))
  refine own_via (fun _ => XS.aloadN X_19.here hx rfl (hb hby d22_34) rfl rfl) ?_
  show own_Go p e below _ (T_19.setTop (mkF m 35 #[.val (.ref a1), .val .null, .val (.ref r)] [.null, (.ref b_4)]))
  have ne_20 : r_12 ≠ b_4 := (Ne.symm (Nat.ne_of_lt (Nat.lt_of_lt_of_le A_4.lt q_11_0)))
  have K_21 : Keep h_4 T_11.heap [b_4] := Keep.trans (ws := [b_4]) (own_keep_mono (Keep.refl h_4 []) (by simp)) K_11q (allS (Or.inl (List.mem_of_getElem? (i := 0) rfl)) all0)
  have K_22 : Keep h_4 h_15 [b_4, a1] := Keep.wr (ws := [b_4, a1]) (own_keep_mono K_21 (by simp)) W_15 (Or.inl (List.mem_of_getElem? (i := 1) rfl))
  have K_23 : Keep T_11.heap h_15 [a1] := Keep.wr (ws := [a1]) (own_keep_mono (Keep.refl T_11.heap []) (by simp)) W_15 (Or.inl (List.mem_of_getElem? (i := 0) rfl))
  have K_24 : Keep h0 h_15 [a1] := Keep.wr (ws := [a1]) (own_keep_mono K_14 (by simp)) W_15 (Or.inl (List.mem_of_getElem? (i := 0) rfl))
  obtain ⟨cq_25, kq_25, q_25a, q_25b, q_25c⟩ := isOf hZ e_19 (A_4.keep K_22)
  obtain ⟨_, _, ⟨T_25, L_25, k_25, n_25⟩, -, X_25, ⟨Lc_25, hQ_25, l_25, y_25, z_25⟩, st_25⟩ := X_19.virtualBack hx (y := (⟨"com/example/optimistik/optimistik/engine/IdentitySet", "add", "(Ljava/lang/Object;)Z"⟩ : MethodName)) (z := (⟨"com/example/optimistik/optimistik/engine/IdentitySet", "add", "(Ljava/lang/Object;)Z"⟩ : MethodName)) hown (mvT hZ (own_w hw 173 rfl)) (mvT hZ (own_w hw 174 rfl)) (notFace_of_selects (args := #[]) (mvT hZ (own_w hw 176 rfl))) (mvT hZ (own_w hw 176 rfl)) (mvT hZ (own_w hw 175 rfl)) (by decide) (backOf (W := 0) (rmaddN l Z a0 hw [] b_4 r_12 u_13 h_15 n0 (Nat.le_trans Z0 K_24.1) (A_4.keep K_22) (q_11_2.keep K_23 (ninS (Ne.symm (Nat.ne_of_lt (Nat.lt_of_lt_of_le E1.lt (Nat.le_of_eq g_4.symm)))) nin0)) (q_11_3.keep K_23 (ninS (Ne.symm (Nat.ne_of_lt (Nat.lt_of_lt_of_le E1.lt (Nat.le_of_eq g_4.symm)))) nin0)) (q_11_4.keep K_23 (ninS (Ne.symm (Nat.ne_of_lt (Nat.lt_of_lt_of_le E1.lt (Nat.le_of_eq g_4.symm)))) nin0)) (q_11_1.keep K_23 (ninS (Ne.symm (Nat.ne_of_lt (Nat.lt_of_lt_of_le (Nat.lt_of_lt_of_le E1.lt K_10.1) q_11_0))) nin0)) (Nat.le_trans Z0 (Nat.le_of_eq g_4.symm)) (Nat.le_trans Z0 (Nat.le_trans K_10.1 q_11_0)) ne_20) hZ (own_w hw 177 rfl) (own_w hw 160 rfl) (by decide) (by decide)) q_25a q_25c (g := (mkF m 35 #[.val (.ref a1), .val .null, .val (.ref r)] [.null, (.ref b_4)])) rfl (by rw [hml]; rfl) (Steps.refl _) (argsL := [.null]) (rest := []) (lenOf pd_6 rfl) rfl (by show 2 * 0 + _ ≤ _; exact Nat.le_of_eq rfl) (hb hby d22_35) (fun _ _ => ⟨rfl, e_19, (by decide : 2 + 0 ≤ _), (by decide : 6 + 0 ≤ _)⟩)
  dsimp only [Pt.U, Pt.locs, Pt.cells, Pt.slots] at X_25 l_25 y_25 z_25 st_25 hQ_25
  subst l_25 y_25 z_25
  obtain ⟨rfl, Nq_25, K_25q, q_25_0, q_25_1, q_25_2, q_25_3⟩ := hQ_25
  have N_25 := Fr.app N_15 Nq_25
  refine own_via (fun _ k => st_25.trans k) ?_
  show own_Go p e below _ (T_25.setTop (mkF m 38 #[.val (.ref a1), .val .null, .val (.ref r)] [(.int (1 : Int32))]))
  refine own_via (fun _ => XS.pop X_25.here hx rfl (hb hby d22_38) rfl rfl) ?_
  show own_Go p e below _ (T_25.setTop (mkF m 39 #[.val (.ref a1), .val .null, .val (.ref r)] []))
  have K_26 : Keep h_4 T_25.heap [b_4, a1] := Keep.trans (ws := [b_4, a1]) K_22 K_25q (allS (Or.inl (List.mem_of_getElem? (i := 0) rfl)) (allS (Or.inr q_11_0) all0))
  have K_27 : Keep h_15 T_25.heap [b_4, r_12] := Keep.trans (ws := [b_4, r_12]) (own_keep_mono (Keep.refl h_15 []) (by simp)) K_25q (allS (Or.inl (List.mem_of_getElem? (i := 0) rfl)) (allS (Or.inl (List.mem_of_getElem? (i := 1) rfl)) all0))
  have K_28 : Keep h0 T_25.heap [a1] := Keep.trans (ws := [a1]) K_24 K_25q (allS (Or.inr (Nat.le_of_eq g_4.symm)) (allS (Or.inr (Nat.le_trans K_10.1 q_11_0)) all0))
  exact own_ret0 X_25 Bd.notSynchronized hx Bd.returns (hb hby d22_39) (by decide) (by decide) ⟨b_4, r_12, u_13, rfl, N_25, K_28, (Nat.le_of_eq g_4.symm), (Nat.le_trans K_10.1 q_11_0), ne_20, (A_4.keep K_26), q_25_0, q_25_1, q_25_2, q_25_3, (F_18.keep K_27 (ninS (Nat.ne_of_lt (Nat.lt_of_lt_of_le E1.lt (Nat.le_of_eq g_4.symm))) (ninS (Nat.ne_of_lt (Nat.lt_of_lt_of_le (Nat.lt_of_lt_of_le E1.lt K_10.1) q_11_0)) nin0))), (F_16.keep K_27 (ninS (Nat.ne_of_lt (Nat.lt_of_lt_of_le E1.lt (Nat.le_of_eq g_4.symm))) (ninS (Nat.ne_of_lt (Nat.lt_of_lt_of_le (Nat.lt_of_lt_of_le E1.lt K_10.1) q_11_0)) nin0))), (F_17.keep K_27 (ninS (Nat.ne_of_lt (Nat.lt_of_lt_of_le E1.lt (Nat.le_of_eq g_4.symm))) (ninS (Nat.ne_of_lt (Nat.lt_of_lt_of_le (Nat.lt_of_lt_of_le E1.lt K_10.1) q_11_0)) nin0)))⟩
theorem d20_0 : decode prog_12_method_4_code 0 = .ok (.aload 4, 2) := by decide +kernel
theorem d20_2 : decode prog_12_method_4_code 2 = .ok (.invokestatic 49, 3) := by decide +kernel
theorem d20_5 : decode prog_12_method_4_code 5 = .ok (.ifCond .eq 41, 3) := by decide +kernel
theorem d20_8 : decode prog_12_method_4_code 8 = .ok (.aload_n 0, 1) := by decide +kernel
theorem d20_9 : decode prog_12_method_4_code 9 = .ok (.getfield 52, 3) := by decide +kernel
theorem d20_12 : decode prog_12_method_4_code 12 = .ok (.ifnonnull 14, 3) := by decide +kernel
theorem d20_15 : decode prog_12_method_4_code 15 = .ok (.aload_n 0, 1) := by decide +kernel
theorem d20_16 : decode prog_12_method_4_code 16 = .ok (.new 56, 3) := by decide +kernel
theorem d20_19 : decode prog_12_method_4_code 19 = .ok (.dup, 1) := by decide +kernel
theorem d20_20 : decode prog_12_method_4_code 20 = .ok (.invokespecial 58, 3) := by decide +kernel
theorem d20_23 : decode prog_12_method_4_code 23 = .ok (.putfield 52, 3) := by decide +kernel
theorem d20_26 : decode prog_12_method_4_code 26 = .ok (.aload_n 0, 1) := by decide +kernel
theorem d20_27 : decode prog_12_method_4_code 27 = .ok (.getfield 52, 3) := by decide +kernel
theorem d20_30 : decode prog_12_method_4_code 30 = .ok (.new 59, 3) := by decide +kernel
theorem d20_33 : decode prog_12_method_4_code 33 = .ok (.dup, 1) := by decide +kernel
theorem d20_34 : decode prog_12_method_4_code 34 = .ok (.aload_n 1, 1) := by decide +kernel
theorem d20_35 : decode prog_12_method_4_code 35 = .ok (.aload_n 2, 1) := by decide +kernel
theorem d20_36 : decode prog_12_method_4_code 36 = .ok (.aload_n 3, 1) := by decide +kernel
theorem d20_37 : decode prog_12_method_4_code 37 = .ok (.invokespecial 61, 3) := by decide +kernel
theorem d20_40 : decode prog_12_method_4_code 40 = .ok (.invokeinterface 64 2, 5) := by decide +kernel
theorem d20_45 : decode prog_12_method_4_code 45 = .ok (.pop, 1) := by decide +kernel
theorem d20_46 : decode prog_12_method_4_code 46 = .ok (.return_, 1) := by decide +kernel
theorem pd_10 : parseMethodDescriptor "(Lcom/example/optimistik/optimistik/engine/EngineTable;Lcom/example/optimistik/optimistik/model/KeyRange;Ljava/util/function/Predicate;)V" = some ⟨[(.object "com/example/optimistik/optimistik/engine/EngineTable"), (.object "com/example/optimistik/optimistik/model/KeyRange"), (.object "java/util/function/Predicate")], none⟩ := by decide +kernel
theorem ef_scanNo (m : MethodId) (a1 : Addr) (r : Addr) : entryFrame m #[(.ref a1), .null, .null, .null, (.ref r)] 5 = mkF m 0 #[.val (.ref a1), .val .null, .val .null, .val .null, .val (.ref r)] [] := by first | (simp [entryFrame, mkF, argsToLocals, Value.category]; done) | rfl
def QscanNo (Z : State) (a1 : Addr) (r : Addr) (u0 : Addr) (u1 : Addr) (u2 : Addr) (u3 : Addr) (u4 : Addr) (h0 : Heap) (n0 : Nat) (v : Option Value) (h : Heap) (L : List Loc) : Prop := v = none ∧ Fr n0 L ∧ h = h0
set_option maxRecDepth 65536 in
set_option maxHeartbeats 40000000 in
theorem rmscanNo (l : Launch) (Z : State) (a0 : Array Value) (hw : ∀ d ∈ tables_1, d.before a0 Z = true) (ws : List Jvm.Cond) (a1 : Addr) (r : Addr) (u0 : Addr) (u1 : Addr) (u2 : Addr) (u3 : Addr) (u4 : Addr) (h0 : Heap) (n0 : Nat) (Z0 : n0 ≤ h0.size) (O0 : Old Z n0 h0) (Su4 : Sta Z Z.heap "com/example/optimistik/optimistik/model/IsolationLevel" "SERIALIZABLE" "Lcom/example/optimistik/optimistik/model/IsolationLevel;" (.ref u4)) (h4 : r ≠ u4) :
    MetFree l (⟨"com/example/optimistik/optimistik/engine/CommitChecks", "noteScan", "(Lcom/example/optimistik/optimistik/engine/EngineTable;Lcom/example/optimistik/optimistik/model/KeyRange;Ljava/util/function/Predicate;Lcom/example/optimistik/optimistik/model/IsolationLevel;)V"⟩ : MethodName) (head1 (Jvm.Cond.code (⟨"com/example/optimistik/optimistik/engine/CommitChecks", "noteScan", "(Lcom/example/optimistik/optimistik/engine/EngineTable;Lcom/example/optimistik/optimistik/model/KeyRange;Ljava/util/function/Predicate;Lcom/example/optimistik/optimistik/model/IsolationLevel;)V"⟩ : MethodName) prog_12_method_4_code 5 none :: ws) ({ frames := 1, cells := 0, slots := 0, locals := 15 } : Room)) (fun a U => a = #[(.ref a1), .null, .null, .null, (.ref r)] ∧ Z.Warmed39 U.vm ∧ U.heap = h0) (fun _ _ _ _ _ => True) (fun _ U o U' => ∃ v L, o = .returned v ∧ QscanNo Z a1 r u0 u1 u2 u3 u4 h0 n0 v U'.heap L ∧ FrameEnd U o U' L ({ frames := 1, cells := 0, slots := 0, locals := 15 } : Room).cells ({ frames := 1, cells := 0, slots := 0, locals := 15 } : Room).slots) := by
  refine MetFree.of_bodySF (plainFor_of_name pn_com_example_optimistik_optimistik_engine_CommitChecks) hisR ?_
  intro p e s m args below meth c s₁ Bd hml0 hP hK
  obtain ⟨rfl, hZ, hH0⟩ := hP
  have hx := Bd.exec
  have hby := Bd.bytes
  have hml : c.maxLocals = 5 := hml0
  have hown : s.vm.findClass "com/example/optimistik/optimistik/engine/CommitChecks" = some m.cls := findClass_of_methodNamed Bd.named
  have hnm := (name_of_methodNamed Bd.named Bd.method).1
  have X0 : Stand p l e ({ frames := 1, cells := 0, slots := 0, locals := 15 } : Room) s m #[(.ref a1), .null, .null, .null, (.ref r)] below meth c s₁ [] 0 0 := Stand.of_body Bd
  have e0 : s₁.heap = h0 := by rw [← hH0, Bd.state]; rfl
  have N0 := Fr.nil n0
  refine own_cast (ef_scanNo m a1 r) ?_
  show own_Go p e below (fun o U' => ∃ v L, o = .returned v ∧ QscanNo Z a1 r u0 u1 u2 u3 u4 h0 n0 v U'.heap L ∧ FrameEnd s o U' L ({ frames := 1, cells := 0, slots := 0, locals := 15 } : Room).cells ({ frames := 1, cells := 0, slots := 0, locals := 15 } : Room).slots) (s₁.setTop (mkF m 0 #[.val (.ref a1), .val .null, .val .null, .val .null, .val (.ref r)] []))
  refine own_via (fun _ => XS.aload X0.here hx rfl (hb hby d20_0) rfl rfl) ?_
  show own_Go p e below _ (s₁.setTop (mkF m 2 #[.val (.ref a1), .val .null, .val .null, .val .null, .val (.ref r)] [(.ref r)]))
  obtain ⟨_, _, ⟨T_1, L_1, k_1, n_1⟩, -, X_1, ⟨Lc_1, hQ_1, l_1, y_1, z_1⟩, st_1⟩ := Jvm.LawKit.callS X0 hx (y := (⟨"com/example/optimistik/optimistik/engine/CommitChecks", "checksRangesScanned", "(Lcom/example/optimistik/optimistik/model/IsolationLevel;)Z"⟩ : MethodName)) hown (mvT hZ (own_w hw 135 rfl)) (mvT hZ (own_w hw 136 rfl)) (mvT hZ (own_w hw 2 rfl)) (mvT hZ (own_w hw 137 rfl)) (by decide) (backOf (W := 0) (rmcrs l Z a0 hw [] r u0 u1 u2 u3 u4 h0 n0 Z0 O0 Su4) hZ (own_w hw 137 rfl) (own_w hw 2 rfl) (by decide) (by decide)) (g := (mkF m 2 #[.val (.ref a1), .val .null, .val .null, .val .null, .val (.ref r)] [(.ref r)])) rfl (by rw [hml]; rfl) (argsL := [(.ref r)]) (rest := []) (lenOf pd_8 rfl) rfl (by show 2 * 0 + _ ≤ _; exact Nat.le_of_eq rfl) (hb hby d20_2) (fun _ _ => ⟨rfl, e0, (by decide : 0 + 0 ≤ _), (by decide : 0 + 0 ≤ _)⟩)
  dsimp only [Pt.U, Pt.locs, Pt.cells, Pt.slots] at X_1 l_1 y_1 z_1 st_1 hQ_1
  subst l_1 y_1 z_1
  obtain ⟨i_2, rfl, Nq_1, e_1, q_1_0⟩ := hQ_1
  have N_1 := Fr.app N0 Nq_1
  refine own_via st_1 ?_
  show own_Go p e below _ (T_1.setTop (mkF m 5 #[.val (.ref a1), .val .null, .val .null, .val .null, .val (.ref r)] [(.int i_2)]))
  refine own_via (fun _ => XS.ifYes X_1.here hx rfl (pc0 := 5) (pc' := 46) rfl (hb hby d20_5) rfl ((if0 _ _).trans (teq (q_1_0.trans (if_neg h4) : i_2 = (0 : Int32))).1) (by decide) (by decide)) ?_
  show own_Go p e below _ (T_1.setTop (mkF m 46 #[.val (.ref a1), .val .null, .val .null, .val .null, .val (.ref r)] []))
  exact own_ret0 X_1 Bd.notSynchronized hx Bd.returns (hb hby d20_46) (by decide) (by decide) (by rw [e_1]; exact ⟨rfl, N_1, rfl⟩)
theorem ef_scanN (m : MethodId) (a1 : Addr) (r : Addr) : entryFrame m #[(.ref a1), .null, .null, .null, (.ref r)] 5 = mkF m 0 #[.val (.ref a1), .val .null, .val .null, .val .null, .val (.ref r)] [] := by first | (simp [entryFrame, mkF, argsToLocals, Value.category]; done) | rfl
def QscanN (Z : State) (a1 : Addr) (r : Addr) (rv : Value) (iv : Value) (u0 : Addr) (u1 : Addr) (u2 : Addr) (u3 : Addr) (u4 : Addr) (dc : Addr) (kd : ClassId) (h0 : Heap) (n0 : Nat) (v : Option Value) (h : Heap) (L : List Loc) : Prop := ∃ li : Addr, ∃ ar : Addr, ∃ k : ClassId, ∃ vs : List Value, v = none ∧ Fr n0 L ∧ Keep h0 h [a1] ∧ (h0.size ≤ li) ∧ (h0.size ≤ ar) ∧ (ar ≠ li) ∧ (Exa Z h li "java/util/ArrayList") ∧ (Ovr Z k "java/lang/Object") ∧ (Arv Z h ar k (.object "java/lang/Object") (10 : Int32) vs .null) ∧ (vs.length = 10) ∧ (Fld Z h li "java/util/AbstractList" "modCount" "I" (.int (1 : Int32))) ∧ (Fld Z h li "java/util/ArrayList" "size" "I" (.int (1 : Int32))) ∧ (Fld Z h li "java/util/ArrayList" "elementData" "[Ljava/lang/Object;" (.ref ar)) ∧ (Fld Z h a1 "com/example/optimistik/optimistik/engine/CommitChecks" "reads" "Lcom/example/optimistik/optimistik/engine/IdentitySet;" rv) ∧ (Fld Z h a1 "com/example/optimistik/optimistik/engine/CommitChecks" "scans" "Ljava/util/List;" (.ref li)) ∧ (Fld Z h a1 "com/example/optimistik/optimistik/engine/CommitChecks" "inserted" "Ljava/util/List;" iv)
set_option maxRecDepth 65536 in
set_option maxHeartbeats 40000000 in
theorem rmscanN (l : Launch) (Z : State) (a0 : Array Value) (hw : ∀ d ∈ tables_1, d.before a0 Z = true) (ws : List Jvm.Cond) (a1 : Addr) (r : Addr) (rv : Value) (iv : Value) (u0 : Addr) (u1 : Addr) (u2 : Addr) (u3 : Addr) (u4 : Addr) (dc : Addr) (kd : ClassId) (h0 : Heap) (n0 : Nat) (Z0 : n0 ≤ h0.size) (O0 : Old Z n0 h0) (Su4 : Sta Z Z.heap "com/example/optimistik/optimistik/model/IsolationLevel" "SERIALIZABLE" "Lcom/example/optimistik/optimistik/model/IsolationLevel;" (.ref u4)) (h4 : r = u4) (E1 : Exa Z h0 a1 "com/example/optimistik/optimistik/engine/CommitChecks") (Frd : Fld Z h0 a1 "com/example/optimistik/optimistik/engine/CommitChecks" "reads" "Lcom/example/optimistik/optimistik/engine/IdentitySet;" rv) (g1 : n0 ≤ a1) (Fsc : Fld Z h0 a1 "com/example/optimistik/optimistik/engine/CommitChecks" "scans" "Ljava/util/List;" .null) (Fin : Fld Z h0 a1 "com/example/optimistik/optimistik/engine/CommitChecks" "inserted" "Ljava/util/List;" iv) (Sdc : Sta Z Z.heap "java/util/ArrayList" "DEFAULTCAPACITY_EMPTY_ELEMENTDATA" "[Ljava/lang/Object;" (.ref dc)) (Adc : Arv Z Z.heap dc kd (.object "java/lang/Object") (0 : Int32) [] .null) :
    MetFree l (⟨"com/example/optimistik/optimistik/engine/CommitChecks", "noteScan", "(Lcom/example/optimistik/optimistik/engine/EngineTable;Lcom/example/optimistik/optimistik/model/KeyRange;Ljava/util/function/Predicate;Lcom/example/optimistik/optimistik/model/IsolationLevel;)V"⟩ : MethodName) (head1 (Jvm.Cond.code (⟨"com/example/optimistik/optimistik/engine/CommitChecks", "noteScan", "(Lcom/example/optimistik/optimistik/engine/EngineTable;Lcom/example/optimistik/optimistik/model/KeyRange;Ljava/util/function/Predicate;Lcom/example/optimistik/optimistik/model/IsolationLevel;)V"⟩ : MethodName) prog_12_method_4_code 5 none :: ws) ({ frames := 5, cells := 3, slots := 16, locals := 80 } : Room)) (fun a U => a = #[(.ref a1), .null, .null, .null, (.ref r)] ∧ Z.Warmed39 U.vm ∧ U.heap = h0) (fun _ _ _ _ _ => True) (fun _ U o U' => ∃ v L, o = .returned v ∧ QscanN Z a1 r rv iv u0 u1 u2 u3 u4 dc kd h0 n0 v U'.heap L ∧ FrameEnd U o U' L ({ frames := 5, cells := 3, slots := 16, locals := 80 } : Room).cells ({ frames := 5, cells := 3, slots := 16, locals := 80 } : Room).slots) := by
  refine MetFree.of_bodySF (plainFor_of_name pn_com_example_optimistik_optimistik_engine_CommitChecks) hisR ?_
  intro p e s m args below meth c s₁ Bd hml0 hP hK
  obtain ⟨rfl, hZ, hH0⟩ := hP
  have hx := Bd.exec
  have hby := Bd.bytes
  have hml : c.maxLocals = 5 := hml0
  have hown : s.vm.findClass "com/example/optimistik/optimistik/engine/CommitChecks" = some m.cls := findClass_of_methodNamed Bd.named
  have hnm := (name_of_methodNamed Bd.named Bd.method).1
  have X0 : Stand p l e ({ frames := 5, cells := 3, slots := 16, locals := 80 } : Room) s m #[(.ref a1), .null, .null, .null, (.ref r)] below meth c s₁ [] 0 0 := Stand.of_body Bd
  have e0 : s₁.heap = h0 := by rw [← hH0, Bd.state]; rfl
  have N0 := Fr.nil n0
  refine own_cast (ef_scanN m a1 r) ?_
  show own_Go p e below (fun o U' => ∃ v L, o = .returned v ∧ QscanN Z a1 r rv iv u0 u1 u2 u3 u4 dc kd h0 n0 v U'.heap L ∧ FrameEnd s o U' L ({ frames := 5, cells := 3, slots := 16, locals := 80 } : Room).cells ({ frames := 5, cells := 3, slots := 16, locals := 80 } : Room).slots) (s₁.setTop (mkF m 0 #[.val (.ref a1), .val .null, .val .null, .val .null, .val (.ref r)] []))
  refine own_via (fun _ => XS.aload X0.here hx rfl (hb hby d20_0) rfl rfl) ?_
  show own_Go p e below _ (s₁.setTop (mkF m 2 #[.val (.ref a1), .val .null, .val .null, .val .null, .val (.ref r)] [(.ref r)]))
  obtain ⟨_, _, ⟨T_1, L_1, k_1, n_1⟩, -, X_1, ⟨Lc_1, hQ_1, l_1, y_1, z_1⟩, st_1⟩ := Jvm.LawKit.callS X0 hx (y := (⟨"com/example/optimistik/optimistik/engine/CommitChecks", "checksRangesScanned", "(Lcom/example/optimistik/optimistik/model/IsolationLevel;)Z"⟩ : MethodName)) hown (mvT hZ (own_w hw 135 rfl)) (mvT hZ (own_w hw 136 rfl)) (mvT hZ (own_w hw 2 rfl)) (mvT hZ (own_w hw 137 rfl)) (by decide) (backOf (W := 0) (rmcrs l Z a0 hw [] r u0 u1 u2 u3 u4 h0 n0 Z0 O0 Su4) hZ (own_w hw 137 rfl) (own_w hw 2 rfl) (by decide) (by decide)) (g := (mkF m 2 #[.val (.ref a1), .val .null, .val .null, .val .null, .val (.ref r)] [(.ref r)])) rfl (by rw [hml]; rfl) (argsL := [(.ref r)]) (rest := []) (lenOf pd_8 rfl) rfl (by show 2 * 0 + _ ≤ _; exact Nat.le_of_eq rfl) (hb hby d20_2) (fun _ _ => ⟨rfl, e0, (by decide : 0 + 0 ≤ _), (by decide : 0 + 0 ≤ _)⟩)
  dsimp only [Pt.U, Pt.locs, Pt.cells, Pt.slots] at X_1 l_1 y_1 z_1 st_1 hQ_1
  subst l_1 y_1 z_1
  obtain ⟨i_2, rfl, Nq_1, e_1, q_1_0⟩ := hQ_1
  have N_1 := Fr.app N0 Nq_1
  refine own_via st_1 ?_
  show own_Go p e below _ (T_1.setTop (mkF m 5 #[.val (.ref a1), .val .null, .val .null, .val .null, .val (.ref r)] [(.int i_2)]))
  refine own_via (fun _ => XS.ifNo X_1.here hx rfl (hb hby d20_5) rfl ((if0 _ _).trans (feq (fun q => absurd (q.symm.trans (q_1_0.trans (if_pos h4))) (by decide) : ¬ (i_2 = (0 : Int32)))).1)) ?_
  show own_Go p e below _ (T_1.setTop (mkF m 8 #[.val (.ref a1), .val .null, .val .null, .val .null, .val (.ref r)] []))
  refine own_via (fun _ => XS.aloadN X_1.here hx rfl (hb hby d20_8) rfl rfl) ?_
  show own_Go p e below _ (T_1.setTop (mkF m 9 #[.val (.ref a1), .val .null, .val .null, .val .null, .val (.ref r)] [(.ref a1)]))
  obtain ⟨T_3, X_3, e_3, st_3⟩ := getF X_1 hx hZ hown (host := "") (Or.inl (own_w hw 16 rfl)) Via.refl e_1 Fsc (g := (mkF m 9 #[.val (.ref a1), .val .null, .val .null, .val .null, .val (.ref r)] [(.ref a1)])) rfl rfl (hb hby d20_9)
  refine own_via st_3 ?_
  show own_Go p e below _ (T_3.setTop (mkF m 12 #[.val (.ref a1), .val .null, .val .null, .val .null, .val (.ref r)] [.null]))
  refine own_via (fun _ => XS.ifnonnullNo X_3.here hx rfl (hb hby d20_12) rfl) ?_
  show own_Go p e below _ (T_3.setTop (mkF m 15 #[.val (.ref a1), .val .null, .val .null, .val .null, .val (.ref r)] []))
  refine own_via (fun _ => XS.aloadN X_3.here hx rfl (hb hby d20_15) rfl rfl) ?_
  show own_Go p e below _ (T_3.setTop (mkF m 16 #[.val (.ref a1), .val .null, .val .null, .val .null, .val (.ref r)] [(.ref a1)]))
  obtain ⟨T_4, h_4, X_4, e_4, E_4, A_4, D_4, -, st_4⟩ := newO X_3 hx hZ hown (own_w hw 55 rfl) (own_w hw 56 rfl) (own_w hw 57 rfl) e_3 (g := (mkF m 16 #[.val (.ref a1), .val .null, .val .null, .val .null, .val (.ref r)] [(.ref a1)])) rfl (hb hby d20_16) (by decide) (by decide)
  obtain ⟨b_4, g_4⟩ : ∃ z, z = h0.size := ⟨_, rfl⟩
  rw [← g_4] at A_4 D_4 st_4
  have F_5 : Fld Z h_4 b_4 "java/util/AbstractList" "modCount" "I" (.int (0 : Int32)) := D_4 (Or.inl (own_w hw 75 rfl)) (ty := .int) (by decide)
  have F_6 : Fld Z h_4 b_4 "java/util/ArrayList" "elementData" "[Ljava/lang/Object;" .null := D_4 (Or.inl (own_w hw 78 rfl)) (ty := (.array (.object "java/lang/Object"))) (by decide)
  have F_7 : Fld Z h_4 b_4 "java/util/ArrayList" "size" "I" (.int (0 : Int32)) := D_4 (Or.inl (own_w hw 107 rfl)) (ty := .int) (by decide)
  refine own_via st_4 ?_
  show own_Go p e below _ (T_4.setTop (mkF m 19 #[.val (.ref a1), .val .null, .val .null, .val .null, .val (.ref r)] [(.ref b_4), (.ref a1)]))
  refine own_via (fun _ => XS.dup X_4.here hx rfl (hb hby d20_19) rfl rfl) ?_
  show own_Go p e below _ (T_4.setTop (mkF m 20 #[.val (.ref a1), .val .null, .val .null, .val .null, .val (.ref r)] [(.ref b_4), (.ref b_4), (.ref a1)]))
  have K_8 : Keep h0 h_4 [] := (Keep.refl h0 []).ext E_4
  obtain ⟨_, _, ⟨T_9, L_9, k_9, n_9⟩, -, X_9, ⟨Lc_9, hQ_9, l_9, y_9, z_9⟩, st_9⟩ := X_4.specialBack hx (y := (⟨"java/util/ArrayList", "<init>", "()V"⟩ : MethodName)) rfl hown (mvT hZ (own_w hw 58 rfl)) (mvT hZ (own_w hw 59 rfl)) (mvT hZ (own_w hw 60 rfl)) (by decide) (backOf (W := 2) (rmalInit l Z a0 hw [] b_4 dc kd h_4 n0 (Nat.le_trans Z0 K_8.1) (O0.keep K_8 all0) A_4 F_5 F_7 F_6 (Nat.le_trans Z0 (Nat.le_of_eq g_4.symm)) Sdc Adc) hZ (own_w hw 60 rfl) (own_w hw 57 rfl) (by decide) (by decide)) (g := (mkF m 20 #[.val (.ref a1), .val .null, .val .null, .val .null, .val (.ref r)] [(.ref b_4), (.ref b_4), (.ref a1)])) rfl (by rw [hml]; rfl) (Steps.refl _) (a := b_4) (argsL := []) (rest := [(.ref b_4), (.ref a1)]) (lenOf pd_0 rfl) rfl (by show 2 * 0 + _ ≤ _; exact Nat.le_of_eq rfl) (hb hby d20_20) (fun _ _ => ⟨rfl, e_4, (by decide : 1 + 0 ≤ _), (by decide : 3 + 0 ≤ _)⟩)
  dsimp only [Pt.U, Pt.locs, Pt.cells, Pt.slots] at X_9 l_9 y_9 z_9 st_9 hQ_9
  subst l_9 y_9 z_9
  obtain ⟨rfl, Nq_9, K_9q, q_9_0, q_9_1, q_9_2⟩ := hQ_9
  have N_9 := Fr.app N_1 Nq_9
  refine own_via (fun _ k => st_9.trans k) ?_
  show own_Go p e below _ (T_9.setTop (mkF m 23 #[.val (.ref a1), .val .null, .val .null, .val .null, .val (.ref r)] [(.ref b_4), (.ref a1)]))
  have K_10 : Keep h0 T_9.heap [] := Keep.trans (ws := []) K_8 K_9q (allS (Or.inr (Nat.le_of_eq g_4.symm)) all0)
  obtain ⟨T_11, h_11, X_11, e_11, W_11, st_11⟩ := putF X_9 hx hZ hown (host := "") (Or.inl (own_w hw 16 rfl)) Via.refl rfl (Fsc.keep K_10 nin0) (E1.keep K_10) (Or.inl (own_w hw 17 rfl)) (own_w hw 1 rfl) (ty := (.object "java/util/List")) (by decide) rfl rfl (g := (mkF m 23 #[.val (.ref a1), .val .null, .val .null, .val .null, .val (.ref r)] [(.ref b_4), (.ref a1)])) rfl rfl (hb hby d20_23)
  have F_12 : Fld Z h_11 a1 "com/example/optimistik/optimistik/engine/CommitChecks" "reads" "Lcom/example/optimistik/optimistik/engine/IdentitySet;" rv := (Frd.keep K_10 nin0).other W_11 (Or.inr (slot_ne (Or.inl (own_w hw 15 rfl)) (Or.inl (own_w hw 17 rfl)) (by decide) (t := (.object "com/example/optimistik/optimistik/engine/IdentitySet")) (t' := (.object "java/util/List")) (by decide) (by decide)))
  have F_13 : Fld Z h_11 a1 "com/example/optimistik/optimistik/engine/CommitChecks" "inserted" "Ljava/util/List;" iv := (Fin.keep K_10 nin0).other W_11 (Or.inr (slot_ne (Or.inl (own_w hw 19 rfl)) (Or.inl (own_w hw 17 rfl)) (by decide) (t := (.object "java/util/List")) (t' := (.object "java/util/List")) (by decide) (by decide)))
  have F_14 : Fld Z h_11 a1 "com/example/optimistik/optimistik/engine/CommitChecks" "scans" "Ljava/util/List;" (.ref b_4) := (Fsc.keep K_10 nin0).same W_11
  have N_11 := Fr.snoc X_11 N_9 g1
  refine own_via st_11 ?_
  show own_Go p e below _ (T_11.setTop (mkF m 26 #[.val (.ref a1), .val .null, .val .null, .val .null, .val (.ref r)] []))
  refine own_via (fun _ => XS.aloadN X_11.here hx rfl (hb hby d20_26) rfl rfl) ?_
  show own_Go p e below _ (T_11.setTop (mkF m 27 #[.val (.ref a1), .val .null, .val .null, .val .null, .val (.ref r)] [(.ref a1)]))
  obtain ⟨T_15, X_15, e_15, st_15⟩ := getF X_11 hx hZ hown (host := "") (Or.inl (own_w hw 16 rfl)) Via.refl e_11 F_14 (g := (mkF m 27 #[.val (.ref a1), .val .null, .val .null, .val .null, .val (.ref r)] [(.ref a1)])) rfl rfl (hb hby d20_27)
  refine own_via st_15 ?_
  show own_Go p e below _ (T_15.setTop (mkF m 30 #[.val (.ref a1), .val .null, .val .null, .val .null, .val (.ref r)] [(.ref b_4)]))
  obtain ⟨T_16, h_16, X_16, e_16, E_16, A_16, D_16, -, st_16⟩ := newO X_15 hx hZ hown (own_w hw 191 rfl) (own_w hw 192 rfl) (own_w hw 193 rfl) e_15 (g := (mkF m 30 #[.val (.ref a1), .val .null, .val .null, .val .null, .val (.ref r)] [(.ref b_4)])) rfl (hb hby d20_30) (by decide) (by decide)
  obtain ⟨b_16, g_16⟩ : ∃ z, z = h_11.size := ⟨_, rfl⟩
  rw [← g_16] at A_16 D_16 st_16
  have F_17 : Fld Z h_16 b_16 "com/example/optimistik/optimistik/engine/CommitChecks$RangeRead" "table" "Lcom/example/optimistik/optimistik/engine/EngineTable;" .null := D_16 (Or.inr (own_w hw 199 rfl)) (ty := (.object "com/example/optimistik/optimistik/engine/EngineTable")) (by decide)
  have F_18 : Fld Z h_16 b_16 "com/example/optimistik/optimistik/engine/CommitChecks$RangeRead" "range" "Lcom/example/optimistik/optimistik/model/KeyRange;" .null := D_16 (Or.inr (own_w hw 201 rfl)) (ty := (.object "com/example/optimistik/optimistik/model/KeyRange")) (by decide)
  have F_19 : Fld Z h_16 b_16 "com/example/optimistik/optimistik/engine/CommitChecks$RangeRead" "filter" "Ljava/util/function/Predicate;" .null := D_16 (Or.inr (own_w hw 203 rfl)) (ty := (.object "java/util/function/Predicate")) (by decide)
  refine own_via st_16 ?_
  show own_Go p e below _ (T_16.setTop (mkF m 33 #[.val (.ref a1), .val .null, .val .null, .val .null, .val (.ref r)] [(.ref b_16), (.ref b_4)]))
  refine own_via (fun _ => XS.dup X_16.here hx rfl (hb hby d20_33) rfl rfl) ?_
  show own_Go p e below _ (T_16.setTop (mkF m 34 #[.val (.ref a1), .val .null, .val .null, .val .null, .val (.ref r)] [(.ref b_16), (.ref b_16), (.ref b_4)]))
  refine own_via (fun _ => XS.aloadN X_16.here hx rfl (hb hby d20_34) rfl rfl) ?_
  show own_Go p e below _ (T_16.setTop (mkF m 35 #[.val (.ref a1), .val .null, .val .null, .val .null, .val (.ref r)] [.null, (.ref b_16), (.ref b_16), (.ref b_4)]))
  refine own_via (fun _ => XS.aloadN X_16.here hx rfl (hb hby d20_35) rfl rfl) ?_
  show own_Go p e below _ (T_16.setTop (mkF m 36 #[.val (.ref a1), .val .null, .val .null, .val .null, .val (.ref r)] [.null, .null, (.ref b_16), (.ref b_16), (.ref b_4)]))
  refine own_via (fun _ => XS.aloadN X_16.here hx rfl (hb hby d20_36) rfl rfl) ?_
  show own_Go p e below _ (T_16.setTop (mkF m 37 #[.val (.ref a1), .val .null, .val .null, .val .null, .val (.ref r)] [.null, .null, .null, (.ref b_16), (.ref b_16), (.ref b_4)]))
  have K_20 : Keep h0 h_11 [a1] := Keep.wr (ws := [a1]) (own_keep_mono K_10 (by simp)) W_11 (Or.inl (List.mem_of_getElem? (i := 0) rfl))
  have K_21 : Keep h0 h_16 [a1] := K_20.ext E_16
  obtain ⟨_, _, ⟨T_22, L_22, k_22, n_22⟩, -, X_22, ⟨Lc_22, hQ_22, l_22, y_22, z_22⟩, st_22⟩ := own_specialRef X_16 hx (y := (⟨"com/example/optimistik/optimistik/engine/CommitChecks$RangeRead", "<init>", "(Lcom/example/optimistik/optimistik/engine/EngineTable;Lcom/example/optimistik/optimistik/model/KeyRange;Ljava/util/function/Predicate;)V"⟩ : MethodName)) rfl hZ hown (own_w hw 194 rfl) (mvT hZ (own_w hw 195 rfl)) (mvT hZ (own_w hw 196 rfl)) (by decide) (backOf (W := 2) (rmrange l Z a0 hw [] b_16 h_16 n0 (Nat.le_trans Z0 K_21.1) A_16 F_17 F_18 F_19 (Nat.le_trans Z0 (Nat.le_trans K_20.1 (Nat.le_of_eq g_16.symm)))) hZ (own_w hw 196 rfl) (own_w hw 193 rfl) (by decide) (by decide)) (g := (mkF m 37 #[.val (.ref a1), .val .null, .val .null, .val .null, .val (.ref r)] [.null, .null, .null, (.ref b_16), (.ref b_16), (.ref b_4)])) rfl (by rw [hml]; rfl) (a := b_16) (argsL := [.null, .null, .null]) (rest := [(.ref b_16), (.ref b_4)]) (lenOf pd_10 rfl) rfl (by show 2 * 0 + _ ≤ _; exact Nat.le_of_eq rfl) (hb hby d20_37) (fun _ _ => ⟨rfl, e_16, (by decide : 2 + 0 ≤ _), (by decide : 6 + 0 ≤ _)⟩)
  dsimp only [Pt.U, Pt.locs, Pt.cells, Pt.slots] at X_22 l_22 y_22 z_22 st_22 hQ_22
  subst l_22 y_22 z_22
  obtain ⟨rfl, Nq_22, K_22q⟩ := hQ_22
  have N_22 := Fr.app N_11 Nq_22
  refine own_via (fun _ k => st_22.trans k) ?_
  show own_Go p e below _ (T_22.setTop (mkF m 40 #[.val (.ref a1), .val .null, .val .null, .val .null, .val (.ref r)] [(.ref b_16), (.ref b_4)]))
  have K_23 : Keep h_16 T_22.heap [b_16] := Keep.trans (ws := [b_16]) (own_keep_mono (Keep.refl h_16 []) (by simp)) K_22q (allS (Or.inl (List.mem_of_getElem? (i := 0) rfl)) all0)
  have I_24 : Ins Z T_22.heap b_16 "java/lang/Object" true := Ins.of_exa (A_16.keep K_23) (own_w hw 204 rfl)
  have K_25 : Keep h_4 T_9.heap [b_4] := Keep.trans (ws := [b_4]) (own_keep_mono (Keep.refl h_4 []) (by simp)) K_9q (allS (Or.inl (List.mem_of_getElem? (i := 0) rfl)) all0)
  have K_26 : Keep h_4 h_11 [b_4, a1] := Keep.wr (ws := [b_4, a1]) (own_keep_mono K_25 (by simp)) W_11 (Or.inl (List.mem_of_getElem? (i := 1) rfl))
  have K_27 : Keep h_4 h_16 [b_4, a1] := K_26.ext E_16
  have K_28 : Keep h_4 T_22.heap [b_4, a1] := Keep.trans (ws := [b_4, a1]) K_27 K_22q (allS (Or.inr (Nat.le_trans K_26.1 (Nat.le_of_eq g_16.symm))) all0)
  have K_29 : Keep T_9.heap h_11 [a1] := Keep.wr (ws := [a1]) (own_keep_mono (Keep.refl T_9.heap []) (by simp)) W_11 (Or.inl (List.mem_of_getElem? (i := 0) rfl))
  have K_30 : Keep T_9.heap h_16 [a1] := K_29.ext E_16
  have K_31 : Keep T_9.heap T_22.heap [a1] := Keep.trans (ws := [a1]) K_30 K_22q (allS (Or.inr (Nat.le_trans K_29.1 (Nat.le_of_eq g_16.symm))) all0)
  have K_32 : Keep h0 T_22.heap [a1] := Keep.trans (ws := [a1]) K_21 K_22q (allS (Or.inr (Nat.le_trans K_20.1 (Nat.le_of_eq g_16.symm))) all0)
  obtain ⟨cq_33, kq_33, q_33a, q_33b, q_33c⟩ := isOf hZ rfl (A_4.keep K_28)
  obtain ⟨_, _, ⟨T_33, L_33, k_33, n_33⟩, -, X_33, ⟨Lc_33, hQ_33, l_33, y_33, z_33⟩, st_33⟩ := X_22.interfaceBack hx (xi := (⟨"java/util/List", "add", "(Ljava/lang/Object;)Z"⟩ : MethodName)) (y := (⟨"java/util/ArrayList", "add", "(Ljava/lang/Object;)Z"⟩ : MethodName)) hown (mvT hZ (own_w hw 95 rfl)) (mvT hZ (own_w hw 96 rfl)) (mvT hZ (own_w hw 97 rfl)) (mvT hZ (own_w hw 98 rfl)) (mvT hZ (own_w hw 99 rfl)) (mvT hZ (own_w hw 100 rfl)) (mvT hZ (own_w hw 101 rfl)) (mvT hZ (own_w hw 102 rfl)) (by decide) (backOf (W := 0) (rmaddA l Z a0 hw [] b_4 b_16 dc kd T_22.heap n0 (Nat.le_trans Z0 K_32.1) (O0.keep K_32 (allS g1 all0)) (A_4.keep K_28) (q_9_0.keep K_31 (ninS (Ne.symm (Nat.ne_of_lt (Nat.lt_of_lt_of_le E1.lt (Nat.le_of_eq g_4.symm)))) nin0)) (q_9_1.keep K_31 (ninS (Ne.symm (Nat.ne_of_lt (Nat.lt_of_lt_of_le E1.lt (Nat.le_of_eq g_4.symm)))) nin0)) (q_9_2.keep K_31 (ninS (Ne.symm (Nat.ne_of_lt (Nat.lt_of_lt_of_le E1.lt (Nat.le_of_eq g_4.symm)))) nin0)) (Nat.le_trans Z0 (Nat.le_of_eq g_4.symm)) Sdc Adc I_24) hZ (own_w hw 103 rfl) (own_w hw 57 rfl) (by decide) (by decide)) q_33a q_33b q_33c (g := (mkF m 40 #[.val (.ref a1), .val .null, .val .null, .val .null, .val (.ref r)] [(.ref b_16), (.ref b_4)])) rfl (by rw [hml]; rfl) (Steps.refl _) (argsL := [(.ref b_16)]) (rest := []) (lenOf pd_6 rfl) rfl (by show 2 * 0 + _ ≤ _; exact Nat.le_of_eq rfl) (hb hby d20_40) (fun _ _ => ⟨rfl, rfl, (by decide : 2 + 1 ≤ _), (by decide : 6 + 10 ≤ _)⟩)
  dsimp only [Pt.U, Pt.locs, Pt.cells, Pt.slots] at X_33 l_33 y_33 z_33 st_33 hQ_33
  subst l_33 y_33 z_33
  obtain ⟨r_34, u_35, rfl, Nq_33, K_33q, q_33_0, q_33_1, q_33_2, q_33_3, q_33_4, q_33_5⟩ := hQ_33
  have N_33 := Fr.app N_22 Nq_33
  refine own_via (fun _ k => st_33.trans k) ?_
  show own_Go p e below _ (T_33.setTop (mkF m 45 #[.val (.ref a1), .val .null, .val .null, .val .null, .val (.ref r)] [(.int (1 : Int32))]))
  refine own_via (fun _ => XS.pop X_33.here hx rfl (hb hby d20_45) rfl rfl) ?_
  show own_Go p e below _ (T_33.setTop (mkF m 46 #[.val (.ref a1), .val .null, .val .null, .val .null, .val (.ref r)] []))
  have ne_36 : r_34 ≠ b_4 := (Ne.symm (Nat.ne_of_lt (Nat.lt_of_lt_of_le (Nat.lt_of_lt_of_le A_4.lt K_28.1) q_33_0)))
  have K_37 : Keep h_4 T_33.heap [b_4, a1] := Keep.trans (ws := [b_4, a1]) K_28 K_33q (allS (Or.inl (List.mem_of_getElem? (i := 0) rfl)) all0)
  have K_38 : Keep h_11 h_16 [] := (Keep.refl h_11 []).ext E_16
  have K_39 : Keep h_11 T_22.heap [] := Keep.trans (ws := []) K_38 K_22q (allS (Or.inr (Nat.le_of_eq g_16.symm)) all0)
  have K_40 : Keep h_11 T_33.heap [b_4] := Keep.trans (ws := [b_4]) (own_keep_mono K_39 (by simp)) K_33q (allS (Or.inl (List.mem_of_getElem? (i := 0) rfl)) all0)
  have K_41 : Keep h0 T_33.heap [a1] := Keep.trans (ws := [a1]) K_32 K_33q (allS (Or.inr (Nat.le_of_eq g_4.symm)) all0)
  exact own_ret0 X_33 Bd.notSynchronized hx Bd.returns (hb hby d20_46) (by decide) (by decide) ⟨b_4, r_34, u_35, [(.ref b_16), .null, .null, .null, .null, .null, .null, .null, .null, .null], rfl, N_33, K_41, (Nat.le_of_eq g_4.symm), (Nat.le_trans K_32.1 q_33_0), ne_36, (A_4.keep K_37), q_33_1, q_33_2, rfl, q_33_3, q_33_4, q_33_5, (F_12.keep K_40 (ninS (Nat.ne_of_lt (Nat.lt_of_lt_of_le E1.lt (Nat.le_of_eq g_4.symm))) nin0)), (F_14.keep K_40 (ninS (Nat.ne_of_lt (Nat.lt_of_lt_of_le E1.lt (Nat.le_of_eq g_4.symm))) nin0)), (F_13.keep K_40 (ninS (Nat.ne_of_lt (Nat.lt_of_lt_of_le E1.lt (Nat.le_of_eq g_4.symm))) nin0))⟩
theorem ef_scanO (m : MethodId) (a1 : Addr) (r : Addr) : entryFrame m #[(.ref a1), .null, .null, .null, (.ref r)] 5 = mkF m 0 #[.val (.ref a1), .val .null, .val .null, .val .null, .val (.ref r)] [] := by first | (simp [entryFrame, mkF, argsToLocals, Value.category]; done) | rfl
def QscanO (Z : State) (a1 : Addr) (r : Addr) (li : Addr) (mm : Int32) (ar : Addr) (k : ClassId) (vs : List Value) (n : Nat) (u0 : Addr) (u1 : Addr) (u2 : Addr) (u3 : Addr) (u4 : Addr) (h0 : Heap) (n0 : Nat) (v : Option Value) (h : Heap) (L : List Loc) : Prop := ∃ ws : List Value, v = none ∧ Fr n0 L ∧ Keep h0 h [li, ar] ∧ (Arv Z h ar k (.object "java/lang/Object") (10 : Int32) ws .null) ∧ (ws.length = 10) ∧ (Fld Z h li "java/util/AbstractList" "modCount" "I" (.int (mm + (1 : Int32)))) ∧ (Fld Z h li "java/util/ArrayList" "size" "I" (.int (Int32.ofNat (n + 1)))) ∧ (Fld Z h li "java/util/ArrayList" "elementData" "[Ljava/lang/Object;" (.ref ar))
set_option maxRecDepth 65536 in
set_option maxHeartbeats 40000000 in
theorem rmscanO (l : Launch) (Z : State) (a0 : Array Value) (hw : ∀ d ∈ tables_1, d.before a0 Z = true) (ws : List Jvm.Cond) (a1 : Addr) (r : Addr) (li : Addr) (mm : Int32) (ar : Addr) (k : ClassId) (vs : List Value) (n : Nat) (u0 : Addr) (u1 : Addr) (u2 : Addr) (u3 : Addr) (u4 : Addr) (h0 : Heap) (n0 : Nat) (Z0 : n0 ≤ h0.size) (O0 : Old Z n0 h0) (Su4 : Sta Z Z.heap "com/example/optimistik/optimistik/model/IsolationLevel" "SERIALIZABLE" "Lcom/example/optimistik/optimistik/model/IsolationLevel;" (.ref u4)) (h4 : r = u4) (Fsc : Fld Z h0 a1 "com/example/optimistik/optimistik/engine/CommitChecks" "scans" "Ljava/util/List;" (.ref li)) (El : Exa Z h0 li "java/util/ArrayList") (Fm : Fld Z h0 li "java/util/AbstractList" "modCount" "I" (.int mm)) (Fz : Fld Z h0 li "java/util/ArrayList" "size" "I" (.int (Int32.ofNat n))) (Fe : Fld Z h0 li "java/util/ArrayList" "elementData" "[Ljava/lang/Object;" (.ref ar)) (Aar : Arv Z h0 ar k (.object "java/lang/Object") (10 : Int32) vs .null) (Ok : Ovr Z k "java/lang/Object") (hv : vs.length = 10) (hn : n < 9) (gl : n0 ≤ li) (ga : n0 ≤ ar) (nea : ar ≠ li) :
    MetFree l (⟨"com/example/optimistik/optimistik/engine/CommitChecks", "noteScan", "(Lcom/example/optimistik/optimistik/engine/EngineTable;Lcom/example/optimistik/optimistik/model/KeyRange;Ljava/util/function/Predicate;Lcom/example/optimistik/optimistik/model/IsolationLevel;)V"⟩ : MethodName) (head1 (Jvm.Cond.code (⟨"com/example/optimistik/optimistik/engine/CommitChecks", "noteScan", "(Lcom/example/optimistik/optimistik/engine/EngineTable;Lcom/example/optimistik/optimistik/model/KeyRange;Ljava/util/function/Predicate;Lcom/example/optimistik/optimistik/model/IsolationLevel;)V"⟩ : MethodName) prog_12_method_4_code 5 none :: ws) ({ frames := 3, cells := 1, slots := 3, locals := 60 } : Room)) (fun a U => a = #[(.ref a1), .null, .null, .null, (.ref r)] ∧ Z.Warmed39 U.vm ∧ U.heap = h0) (fun _ _ _ _ _ => True) (fun _ U o U' => ∃ v L, o = .returned v ∧ QscanO Z a1 r li mm ar k vs n u0 u1 u2 u3 u4 h0 n0 v U'.heap L ∧ FrameEnd U o U' L ({ frames := 3, cells := 1, slots := 3, locals := 60 } : Room).cells ({ frames := 3, cells := 1, slots := 3, locals := 60 } : Room).slots) := by
  refine MetFree.of_bodySF (plainFor_of_name pn_com_example_optimistik_optimistik_engine_CommitChecks) hisR ?_
  intro p e s m args below meth c s₁ Bd hml0 hP hK
  obtain ⟨rfl, hZ, hH0⟩ := hP
  have hx := Bd.exec
  have hby := Bd.bytes
  have hml : c.maxLocals = 5 := hml0
  have hown : s.vm.findClass "com/example/optimistik/optimistik/engine/CommitChecks" = some m.cls := findClass_of_methodNamed Bd.named
  have hnm := (name_of_methodNamed Bd.named Bd.method).1
  have X0 : Stand p l e ({ frames := 3, cells := 1, slots := 3, locals := 60 } : Room) s m #[(.ref a1), .null, .null, .null, (.ref r)] below meth c s₁ [] 0 0 := Stand.of_body Bd
  have e0 : s₁.heap = h0 := by rw [← hH0, Bd.state]; rfl
  have N0 := Fr.nil n0
  refine own_cast (ef_scanO m a1 r) ?_
  show own_Go p e below (fun o U' => ∃ v L, o = .returned v ∧ QscanO Z a1 r li mm ar k vs n u0 u1 u2 u3 u4 h0 n0 v U'.heap L ∧ FrameEnd s o U' L ({ frames := 3, cells := 1, slots := 3, locals := 60 } : Room).cells ({ frames := 3, cells := 1, slots := 3, locals := 60 } : Room).slots) (s₁.setTop (mkF m 0 #[.val (.ref a1), .val .null, .val .null, .val .null, .val (.ref r)] []))
  refine own_via (fun _ => XS.aload X0.here hx rfl (hb hby d20_0) rfl rfl) ?_
  show own_Go p e below _ (s₁.setTop (mkF m 2 #[.val (.ref a1), .val .null, .val .null, .val .null, .val (.ref r)] [(.ref r)]))
  obtain ⟨_, _, ⟨T_1, L_1, k_1, n_1⟩, -, X_1, ⟨Lc_1, hQ_1, l_1, y_1, z_1⟩, st_1⟩ := Jvm.LawKit.callS X0 hx (y := (⟨"com/example/optimistik/optimistik/engine/CommitChecks", "checksRangesScanned", "(Lcom/example/optimistik/optimistik/model/IsolationLevel;)Z"⟩ : MethodName)) hown (mvT hZ (own_w hw 135 rfl)) (mvT hZ (own_w hw 136 rfl)) (mvT hZ (own_w hw 2 rfl)) (mvT hZ (own_w hw 137 rfl)) (by decide) (backOf (W := 0) (rmcrs l Z a0 hw [] r u0 u1 u2 u3 u4 h0 n0 Z0 O0 Su4) hZ (own_w hw 137 rfl) (own_w hw 2 rfl) (by decide) (by decide)) (g := (mkF m 2 #[.val (.ref a1), .val .null, .val .null, .val .null, .val (.ref r)] [(.ref r)])) rfl (by rw [hml]; rfl) (argsL := [(.ref r)]) (rest := []) (lenOf pd_8 rfl) rfl (by show 2 * 0 + _ ≤ _; exact Nat.le_of_eq rfl) (hb hby d20_2) (fun _ _ => ⟨rfl, e0, (by decide : 0 + 0 ≤ _), (by decide : 0 + 0 ≤ _)⟩)
  dsimp only [Pt.U, Pt.locs, Pt.cells, Pt.slots] at X_1 l_1 y_1 z_1 st_1 hQ_1
  subst l_1 y_1 z_1
  obtain ⟨i_2, rfl, Nq_1, e_1, q_1_0⟩ := hQ_1
  have N_1 := Fr.app N0 Nq_1
  refine own_via st_1 ?_
  show own_Go p e below _ (T_1.setTop (mkF m 5 #[.val (.ref a1), .val .null, .val .null, .val .null, .val (.ref r)] [(.int i_2)]))
  refine own_via (fun _ => XS.ifNo X_1.here hx rfl (hb hby d20_5) rfl ((if0 _ _).trans (feq (fun q => absurd (q.symm.trans (q_1_0.trans (if_pos h4))) (by decide) : ¬ (i_2 = (0 : Int32)))).1)) ?_
  show own_Go p e below _ (T_1.setTop (mkF m 8 #[.val (.ref a1), .val .null, .val .null, .val .null, .val (.ref r)] []))
  refine own_via (fun _ => XS.aloadN X_1.here hx rfl (hb hby d20_8) rfl rfl) ?_
  show own_Go p e below _ (T_1.setTop (mkF m 9 #[.val (.ref a1), .val .null, .val .null, .val .null, .val (.ref r)] [(.ref a1)]))
  obtain ⟨T_3, X_3, e_3, st_3⟩ := getF X_1 hx hZ hown (host := "") (Or.inl (own_w hw 16 rfl)) Via.refl e_1 Fsc (g := (mkF m 9 #[.val (.ref a1), .val .null, .val .null, .val .null, .val (.ref r)] [(.ref a1)])) rfl rfl (hb hby d20_9)
  refine own_via st_3 ?_
  show own_Go p e below _ (T_3.setTop (mkF m 12 #[.val (.ref a1), .val .null, .val .null, .val .null, .val (.ref r)] [(.ref li)]))
  refine own_via (fun _ => XS.ifnonnullYes X_3.here hx rfl (pc0 := 12) (pc' := 26) rfl (hb hby d20_12) rfl (by decide) (by decide)) ?_
  show own_Go p e below _ (T_3.setTop (mkF m 26 #[.val (.ref a1), .val .null, .val .null, .val .null, .val (.ref r)] []))
  refine own_via (fun _ => XS.aloadN X_3.here hx rfl (hb hby d20_26) rfl rfl) ?_
  show own_Go p e below _ (T_3.setTop (mkF m 27 #[.val (.ref a1), .val .null, .val .null, .val .null, .val (.ref r)] [(.ref a1)]))
  obtain ⟨T_4, X_4, e_4, st_4⟩ := getF X_3 hx hZ hown (host := "") (Or.inl (own_w hw 16 rfl)) Via.refl e_3 Fsc (g := (mkF m 27 #[.val (.ref a1), .val .null, .val .null, .val .null, .val (.ref r)] [(.ref a1)])) rfl rfl (hb hby d20_27)
  refine own_via st_4 ?_
  show own_Go p e below _ (T_4.setTop (mkF m 30 #[.val (.ref a1), .val .null, .val .null, .val .null, .val (.ref r)] [(.ref li)]))
  obtain ⟨T_5, h_5, X_5, e_5, E_5, A_5, D_5, -, st_5⟩ := newO X_4 hx hZ hown (own_w hw 191 rfl) (own_w hw 192 rfl) (own_w hw 193 rfl) e_4 (g := (mkF m 30 #[.val (.ref a1), .val .null, .val .null, .val .null, .val (.ref r)] [(.ref li)])) rfl (hb hby d20_30) (by decide) (by decide)
  obtain ⟨b_5, g_5⟩ : ∃ z, z = h0.size := ⟨_, rfl⟩
  rw [← g_5] at A_5 D_5 st_5
  have F_6 : Fld Z h_5 b_5 "com/example/optimistik/optimistik/engine/CommitChecks$RangeRead" "table" "Lcom/example/optimistik/optimistik/engine/EngineTable;" .null := D_5 (Or.inr (own_w hw 199 rfl)) (ty := (.object "com/example/optimistik/optimistik/engine/EngineTable")) (by decide)
  have F_7 : Fld Z h_5 b_5 "com/example/optimistik/optimistik/engine/CommitChecks$RangeRead" "range" "Lcom/example/optimistik/optimistik/model/KeyRange;" .null := D_5 (Or.inr (own_w hw 201 rfl)) (ty := (.object "com/example/optimistik/optimistik/model/KeyRange")) (by decide)
  have F_8 : Fld Z h_5 b_5 "com/example/optimistik/optimistik/engine/CommitChecks$RangeRead" "filter" "Ljava/util/function/Predicate;" .null := D_5 (Or.inr (own_w hw 203 rfl)) (ty := (.object "java/util/function/Predicate")) (by decide)
  refine own_via st_5 ?_
  show own_Go p e below _ (T_5.setTop (mkF m 33 #[.val (.ref a1), .val .null, .val .null, .val .null, .val (.ref r)] [(.ref b_5), (.ref li)]))
  refine own_via (fun _ => XS.dup X_5.here hx rfl (hb hby d20_33) rfl rfl) ?_
  show own_Go p e below _ (T_5.setTop (mkF m 34 #[.val (.ref a1), .val .null, .val .null, .val .null, .val (.ref r)] [(.ref b_5), (.ref b_5), (.ref li)]))
  refine own_via (fun _ => XS.aloadN X_5.here hx rfl (hb hby d20_34) rfl rfl) ?_
  show own_Go p e below _ (T_5.setTop (mkF m 35 #[.val (.ref a1), .val .null, .val .null, .val .null, .val (.ref r)] [.null, (.ref b_5), (.ref b_5), (.ref li)]))
  refine own_via (fun _ => XS.aloadN X_5.here hx rfl (hb hby d20_35) rfl rfl) ?_
  show own_Go p e below _ (T_5.setTop (mkF m 36 #[.val (.ref a1), .val .null, .val .null, .val .null, .val (.ref r)] [.null, .null, (.ref b_5), (.ref b_5), (.ref li)]))
  refine own_via (fun _ => XS.aloadN X_5.here hx rfl (hb hby d20_36) rfl rfl) ?_
  show own_Go p e below _ (T_5.setTop (mkF m 37 #[.val (.ref a1), .val .null, .val .null, .val .null, .val (.ref r)] [.null, .null, .null, (.ref b_5), (.ref b_5), (.ref li)]))
  have K_9 : Keep h0 h_5 [] := (Keep.refl h0 []).ext E_5
  obtain ⟨_, _, ⟨T_10, L_10, k_10, n_10⟩, -, X_10, ⟨Lc_10, hQ_10, l_10, y_10, z_10⟩, st_10⟩ := own_specialRef X_5 hx (y := (⟨"com/example/optimistik/optimistik/engine/CommitChecks$RangeRead", "<init>", "(Lcom/example/optimistik/optimistik/engine/EngineTable;Lcom/example/optimistik/optimistik/model/KeyRange;Ljava/util/function/Predicate;)V"⟩ : MethodName)) rfl hZ hown (own_w hw 194 rfl) (mvT hZ (own_w hw 195 rfl)) (mvT hZ (own_w hw 196 rfl)) (by decide) (backOf (W := 2) (rmrange l Z a0 hw [] b_5 h_5 n0 (Nat.le_trans Z0 K_9.1) A_5 F_6 F_7 F_8 (Nat.le_trans Z0 (Nat.le_of_eq g_5.symm))) hZ (own_w hw 196 rfl) (own_w hw 193 rfl) (by decide) (by decide)) (g := (mkF m 37 #[.val (.ref a1), .val .null, .val .null, .val .null, .val (.ref r)] [.null, .null, .null, (.ref b_5), (.ref b_5), (.ref li)])) rfl (by rw [hml]; rfl) (a := b_5) (argsL := [.null, .null, .null]) (rest := [(.ref b_5), (.ref li)]) (lenOf pd_10 rfl) rfl (by show 2 * 0 + _ ≤ _; exact Nat.le_of_eq rfl) (hb hby d20_37) (fun _ _ => ⟨rfl, e_5, (by decide : 1 + 0 ≤ _), (by decide : 3 + 0 ≤ _)⟩)
  dsimp only [Pt.U, Pt.locs, Pt.cells, Pt.slots] at X_10 l_10 y_10 z_10 st_10 hQ_10
  subst l_10 y_10 z_10
  obtain ⟨rfl, Nq_10, K_10q⟩ := hQ_10
  have N_10 := Fr.app N_1 Nq_10
  refine own_via (fun _ k => st_10.trans k) ?_
  show own_Go p e below _ (T_10.setTop (mkF m 40 #[.val (.ref a1), .val .null, .val .null, .val .null, .val (.ref r)] [(.ref b_5), (.ref li)]))
  have K_11 : Keep h_5 T_10.heap [b_5] := Keep.trans (ws := [b_5]) (own_keep_mono (Keep.refl h_5 []) (by simp)) K_10q (allS (Or.inl (List.mem_of_getElem? (i := 0) rfl)) all0)
  have I_12 : Ins Z T_10.heap b_5 "java/lang/Object" true := Ins.of_exa (A_5.keep K_11) (own_w hw 204 rfl)
  have K_13 : Keep h0 T_10.heap [] := Keep.trans (ws := []) K_9 K_10q (allS (Or.inr (Nat.le_of_eq g_5.symm)) all0)
  obtain ⟨cq_14, kq_14, q_14a, q_14b, q_14c⟩ := isOf hZ rfl (El.keep K_13)
  obtain ⟨_, _, ⟨T_14, L_14, k_14, n_14⟩, -, X_14, ⟨Lc_14, hQ_14, l_14, y_14, z_14⟩, st_14⟩ := X_10.interfaceBack hx (xi := (⟨"java/util/List", "add", "(Ljava/lang/Object;)Z"⟩ : MethodName)) (y := (⟨"java/util/ArrayList", "add", "(Ljava/lang/Object;)Z"⟩ : MethodName)) hown (mvT hZ (own_w hw 95 rfl)) (mvT hZ (own_w hw 96 rfl)) (mvT hZ (own_w hw 97 rfl)) (mvT hZ (own_w hw 98 rfl)) (mvT hZ (own_w hw 99 rfl)) (mvT hZ (own_w hw 100 rfl)) (mvT hZ (own_w hw 101 rfl)) (mvT hZ (own_w hw 102 rfl)) (by decide) (backOf (W := 0) (rmaddB l Z a0 hw [] li b_5 mm ar k vs n T_10.heap n0 (Nat.le_trans Z0 K_13.1) (El.keep K_13) (Fm.keep K_13 nin0) (Fz.keep K_13 nin0) (Fe.keep K_13 nin0) gl (Aar.keep K_13 nin0) Ok hv hn ga nea I_12) hZ (own_w hw 103 rfl) (own_w hw 57 rfl) (by decide) (by decide)) q_14a q_14b q_14c (g := (mkF m 40 #[.val (.ref a1), .val .null, .val .null, .val .null, .val (.ref r)] [(.ref b_5), (.ref li)])) rfl (by rw [hml]; rfl) (Steps.refl _) (argsL := [(.ref b_5)]) (rest := []) (lenOf pd_6 rfl) rfl (by show 2 * 0 + _ ≤ _; exact Nat.le_of_eq rfl) (hb hby d20_40) (fun _ _ => ⟨rfl, rfl, (by decide : 1 + 0 ≤ _), (by decide : 3 + 0 ≤ _)⟩)
  dsimp only [Pt.U, Pt.locs, Pt.cells, Pt.slots] at X_14 l_14 y_14 z_14 st_14 hQ_14
  subst l_14 y_14 z_14
  obtain ⟨rfl, Nq_14, K_14q, q_14_0, q_14_1, q_14_2, q_14_3⟩ := hQ_14
  have N_14 := Fr.app N_10 Nq_14
  refine own_via (fun _ k => st_14.trans k) ?_
  show own_Go p e below _ (T_14.setTop (mkF m 45 #[.val (.ref a1), .val .null, .val .null, .val .null, .val (.ref r)] [(.int (1 : Int32))]))
  refine own_via (fun _ => XS.pop X_14.here hx rfl (hb hby d20_45) rfl rfl) ?_
  show own_Go p e below _ (T_14.setTop (mkF m 46 #[.val (.ref a1), .val .null, .val .null, .val .null, .val (.ref r)] []))
  have K_15 : Keep h0 T_14.heap [li, ar] := Keep.trans (ws := [li, ar]) (own_keep_mono K_13 (by simp)) K_14q (allS (Or.inl (List.mem_of_getElem? (i := 0) rfl)) (allS (Or.inl (List.mem_of_getElem? (i := 1) rfl)) all0))
  exact own_ret0 X_14 Bd.notSynchronized hx Bd.returns (hb hby d20_46) (by decide) (by decide) ⟨(vs.set n (.ref b_5)), rfl, N_14, K_15, q_14_0, (by rw [List.length_set]; exact hv), q_14_1, q_14_2, q_14_3⟩
theorem d9_0 : decode prog_12_method_5_code 0 = .ok (.aload_n 0, 1) := by decide +kernel
theorem d9_1 : decode prog_12_method_5_code 1 = .ok (.getfield 67, 3) := by decide +kernel
theorem d9_4 : decode prog_12_method_5_code 4 = .ok (.ifnonnull 14, 3) := by decide +kernel
theorem d9_7 : decode prog_12_method_5_code 7 = .ok (.aload_n 0, 1) := by decide +kernel
theorem d9_8 : decode prog_12_method_5_code 8 = .ok (.new 56, 3) := by decide +kernel
theorem d9_11 : decode prog_12_method_5_code 11 = .ok (.dup, 1) := by decide +kernel
theorem d9_12 : decode prog_12_method_5_code 12 = .ok (.invokespecial 58, 3) := by decide +kernel
theorem d9_15 : decode prog_12_method_5_code 15 = .ok (.putfield 67, 3) := by decide +kernel
theorem d9_18 : decode prog_12_method_5_code 18 = .ok (.aload_n 0, 1) := by decide +kernel
theorem d9_19 : decode prog_12_method_5_code 19 = .ok (.getfield 67, 3) := by decide +kernel
theorem d9_22 : decode prog_12_method_5_code 22 = .ok (.new 70, 3) := by decide +kernel
theorem d9_25 : decode prog_12_method_5_code 25 = .ok (.dup, 1) := by decide +kernel
theorem d9_26 : decode prog_12_method_5_code 26 = .ok (.aload_n 1, 1) := by decide +kernel
theorem d9_27 : decode prog_12_method_5_code 27 = .ok (.aload_n 2, 1) := by decide +kernel
theorem d9_28 : decode prog_12_method_5_code 28 = .ok (.invokespecial 72, 3) := by decide +kernel
theorem d9_31 : decode prog_12_method_5_code 31 = .ok (.invokeinterface 64 2, 5) := by decide +kernel
theorem d9_36 : decode prog_12_method_5_code 36 = .ok (.pop, 1) := by decide +kernel
theorem d9_37 : decode prog_12_method_5_code 37 = .ok (.return_, 1) := by decide +kernel
theorem pd_11 : parseMethodDescriptor "(Lcom/example/optimistik/optimistik/engine/EngineTable;Ljava/lang/Object;)V" = some ⟨[(.object "com/example/optimistik/optimistik/engine/EngineTable"), (.object "java/lang/Object")], none⟩ := by decide +kernel
theorem ef_insN (m : MethodId) (a1 : Addr) (x : Addr) : entryFrame m #[(.ref a1), .null, (.ref x)] 3 = mkF m 0 #[.val (.ref a1), .val .null, .val (.ref x)] [] := by first | (simp [entryFrame, mkF, argsToLocals, Value.category]; done) | rfl
def QinsN (Z : State) (a1 : Addr) (x : Addr) (rv : Value) (sv : Value) (dc : Addr) (kd : ClassId) (h0 : Heap) (n0 : Nat) (v : Option Value) (h : Heap) (L : List Loc) : Prop := ∃ li : Addr, ∃ ar : Addr, ∃ k : ClassId, ∃ vs : List Value, v = none ∧ Fr n0 L ∧ Keep h0 h [a1] ∧ (h0.size ≤ li) ∧ (h0.size ≤ ar) ∧ (ar ≠ li) ∧ (Exa Z h li "java/util/ArrayList") ∧ (Ovr Z k "java/lang/Object") ∧ (Arv Z h ar k (.object "java/lang/Object") (10 : Int32) vs .null) ∧ (vs.length = 10) ∧ (Fld Z h li "java/util/AbstractList" "modCount" "I" (.int (1 : Int32))) ∧ (Fld Z h li "java/util/ArrayList" "size" "I" (.int (1 : Int32))) ∧ (Fld Z h li "java/util/ArrayList" "elementData" "[Ljava/lang/Object;" (.ref ar)) ∧ (Fld Z h a1 "com/example/optimistik/optimistik/engine/CommitChecks" "reads" "Lcom/example/optimistik/optimistik/engine/IdentitySet;" rv) ∧ (Fld Z h a1 "com/example/optimistik/optimistik/engine/CommitChecks" "scans" "Ljava/util/List;" sv) ∧ (Fld Z h a1 "com/example/optimistik/optimistik/engine/CommitChecks" "inserted" "Ljava/util/List;" (.ref li))
set_option maxRecDepth 65536 in
set_option maxHeartbeats 40000000 in
theorem rminsN (l : Launch) (Z : State) (a0 : Array Value) (hw : ∀ d ∈ tables_1, d.before a0 Z = true) (ws : List Jvm.Cond) (a1 : Addr) (x : Addr) (rv : Value) (sv : Value) (dc : Addr) (kd : ClassId) (h0 : Heap) (n0 : Nat) (Z0 : n0 ≤ h0.size) (O0 : Old Z n0 h0) (E1 : Exa Z h0 a1 "com/example/optimistik/optimistik/engine/CommitChecks") (Frd : Fld Z h0 a1 "com/example/optimistik/optimistik/engine/CommitChecks" "reads" "Lcom/example/optimistik/optimistik/engine/IdentitySet;" rv) (g1 : n0 ≤ a1) (Fsc : Fld Z h0 a1 "com/example/optimistik/optimistik/engine/CommitChecks" "scans" "Ljava/util/List;" sv) (Fin : Fld Z h0 a1 "com/example/optimistik/optimistik/engine/CommitChecks" "inserted" "Ljava/util/List;" .null) (Sdc : Sta Z Z.heap "java/util/ArrayList" "DEFAULTCAPACITY_EMPTY_ELEMENTDATA" "[Ljava/lang/Object;" (.ref dc)) (Adc : Arv Z Z.heap dc kd (.object "java/lang/Object") (0 : Int32) [] .null) :
    MetFree l (⟨"com/example/optimistik/optimistik/engine/CommitChecks", "noteInsert", "(Lcom/example/optimistik/optimistik/engine/EngineTable;Ljava/lang/Object;)V"⟩ : MethodName) (head1 (Jvm.Cond.code (⟨"com/example/optimistik/optimistik/engine/CommitChecks", "noteInsert", "(Lcom/example/optimistik/optimistik/engine/EngineTable;Ljava/lang/Object;)V"⟩ : MethodName) prog_12_method_5_code 3 none :: ws) ({ frames := 5, cells := 3, slots := 15, locals := 80 } : Room)) (fun a U => a = #[(.ref a1), .null, (.ref x)] ∧ Z.Warmed39 U.vm ∧ U.heap = h0) (fun _ _ _ _ _ => True) (fun _ U o U' => ∃ v L, o = .returned v ∧ QinsN Z a1 x rv sv dc kd h0 n0 v U'.heap L ∧ FrameEnd U o U' L ({ frames := 5, cells := 3, slots := 15, locals := 80 } : Room).cells ({ frames := 5, cells := 3, slots := 15, locals := 80 } : Room).slots) := by
  refine MetFree.of_bodySF (plainFor_of_name pn_com_example_optimistik_optimistik_engine_CommitChecks) hisR ?_
  intro p e s m args below meth c s₁ Bd hml0 hP hK
  obtain ⟨rfl, hZ, hH0⟩ := hP
  have hx := Bd.exec
  have hby := Bd.bytes
  have hml : c.maxLocals = 3 := hml0
  have hown : s.vm.findClass "com/example/optimistik/optimistik/engine/CommitChecks" = some m.cls := findClass_of_methodNamed Bd.named
  have hnm := (name_of_methodNamed Bd.named Bd.method).1
  have X0 : Stand p l e ({ frames := 5, cells := 3, slots := 15, locals := 80 } : Room) s m #[(.ref a1), .null, (.ref x)] below meth c s₁ [] 0 0 := Stand.of_body Bd
  have e0 : s₁.heap = h0 := by rw [← hH0, Bd.state]; rfl
  have N0 := Fr.nil n0
  refine own_cast (ef_insN m a1 x) ?_
  show own_Go p e below (fun o U' => ∃ v L, o = .returned v ∧ QinsN Z a1 x rv sv dc kd h0 n0 v U'.heap L ∧ FrameEnd s o U' L ({ frames := 5, cells := 3, slots := 15, locals := 80 } : Room).cells ({ frames := 5, cells := 3, slots := 15, locals := 80 } : Room).slots) (s₁.setTop (mkF m 0 #[.val (.ref a1), .val .null, .val (.ref x)] []))
  refine own_via (fun _ => XS.aloadN X0.here hx rfl (hb hby d9_0) rfl rfl) ?_
  show own_Go p e below _ (s₁.setTop (mkF m 1 #[.val (.ref a1), .val .null, .val (.ref x)] [(.ref a1)]))
  obtain ⟨T_1, X_1, e_1, st_1⟩ := getF X0 hx hZ hown (host := "") (Or.inl (own_w hw 18 rfl)) Via.refl e0 Fin (g := (mkF m 1 #[.val (.ref a1), .val .null, .val (.ref x)] [(.ref a1)])) rfl rfl (hb hby d9_1)
  refine own_via st_1 ?_
  show own_Go p e below _ (T_1.setTop (mkF m 4 #[.val (.ref a1), .val .null, .val (.ref x)] [.null]))
  refine own_via (fun _ => XS.ifnonnullNo X_1.here hx rfl (hb hby d9_4) rfl) ?_
  show own_Go p e below _ (T_1.setTop (mkF m 7 #[.val (.ref a1), .val .null, .val (.ref x)] []))
  refine own_via (fun _ => XS.aloadN X_1.here hx rfl (hb hby d9_7) rfl rfl) ?_
  show own_Go p e below _ (T_1.setTop (mkF m 8 #[.val (.ref a1), .val .null, .val (.ref x)] [(.ref a1)]))
  obtain ⟨T_2, h_2, X_2, e_2, E_2, A_2, D_2, -, st_2⟩ := newO X_1 hx hZ hown (own_w hw 55 rfl) (own_w hw 56 rfl) (own_w hw 57 rfl) e_1 (g := (mkF m 8 #[.val (.ref a1), .val .null, .val (.ref x)] [(.ref a1)])) rfl (hb hby d9_8) (by decide) (by decide)
  obtain ⟨b_2, g_2⟩ : ∃ z, z = h0.size := ⟨_, rfl⟩
  rw [← g_2] at A_2 D_2 st_2
  have F_3 : Fld Z h_2 b_2 "java/util/AbstractList" "modCount" "I" (.int (0 : Int32)) := D_2 (Or.inl (own_w hw 75 rfl)) (ty := .int) (by decide)
  have F_4 : Fld Z h_2 b_2 "java/util/ArrayList" "elementData" "[Ljava/lang/Object;" .null := D_2 (Or.inl (own_w hw 78 rfl)) (ty := (.array (.object "java/lang/Object"))) (by decide)
  have F_5 : Fld Z h_2 b_2 "java/util/ArrayList" "size" "I" (.int (0 : Int32)) := D_2 (Or.inl (own_w hw 107 rfl)) (ty := .int) (by decide)
  refine own_via st_2 ?_
  show own_Go p e below _ (T_2.setTop (mkF m 11 #[.val (.ref a1), .val .null, .val (.ref x)] [(.ref b_2), (.ref a1)]))
  refine own_via (fun _ => XS.dup X_2.here hx rfl (hb hby d9_11) rfl rfl) ?_
  show own_Go p e below _ (T_2.setTop (mkF m 12 #[.val (.ref a1), .val .null, .val (.ref x)] [(.ref b_2), (.ref b_2), (.ref a1)]))
  have K_6 : Keep h0 h_2 [] := (Keep.refl h0 []).ext E_2
  obtain ⟨_, _, ⟨T_7, L_7, k_7, n_7⟩, -, X_7, ⟨Lc_7, hQ_7, l_7, y_7, z_7⟩, st_7⟩ := X_2.specialBack hx (y := (⟨"java/util/ArrayList", "<init>", "()V"⟩ : MethodName)) rfl hown (mvT hZ (own_w hw 58 rfl)) (mvT hZ (own_w hw 59 rfl)) (mvT hZ (own_w hw 60 rfl)) (by decide) (backOf (W := 2) (rmalInit l Z a0 hw [] b_2 dc kd h_2 n0 (Nat.le_trans Z0 K_6.1) (O0.keep K_6 all0) A_2 F_3 F_5 F_4 (Nat.le_trans Z0 (Nat.le_of_eq g_2.symm)) Sdc Adc) hZ (own_w hw 60 rfl) (own_w hw 57 rfl) (by decide) (by decide)) (g := (mkF m 12 #[.val (.ref a1), .val .null, .val (.ref x)] [(.ref b_2), (.ref b_2), (.ref a1)])) rfl (by rw [hml]; rfl) (Steps.refl _) (a := b_2) (argsL := []) (rest := [(.ref b_2), (.ref a1)]) (lenOf pd_0 rfl) rfl (by show 2 * 0 + _ ≤ _; exact Nat.le_of_eq rfl) (hb hby d9_12) (fun _ _ => ⟨rfl, e_2, (by decide : 1 + 0 ≤ _), (by decide : 3 + 0 ≤ _)⟩)
  dsimp only [Pt.U, Pt.locs, Pt.cells, Pt.slots] at X_7 l_7 y_7 z_7 st_7 hQ_7
  subst l_7 y_7 z_7
  obtain ⟨rfl, Nq_7, K_7q, q_7_0, q_7_1, q_7_2⟩ := hQ_7
  have N_7 := Fr.app N0 Nq_7
  refine own_via (fun _ k => st_7.trans k) ?_
  show own_Go p e below _ (T_7.setTop (mkF m 15 #[.val (.ref a1), .val .null, .val (.ref x)] [(.ref b_2), (.ref a1)]))
  have K_8 : Keep h0 T_7.heap [] := Keep.trans (ws := []) K_6 K_7q (allS (Or.inr (Nat.le_of_eq g_2.symm)) all0)
  obtain ⟨T_9, h_9, X_9, e_9, W_9, st_9⟩ := putF X_7 hx hZ hown (host := "") (Or.inl (own_w hw 18 rfl)) Via.refl rfl (Fin.keep K_8 nin0) (E1.keep K_8) (Or.inl (own_w hw 19 rfl)) (own_w hw 1 rfl) (ty := (.object "java/util/List")) (by decide) rfl rfl (g := (mkF m 15 #[.val (.ref a1), .val .null, .val (.ref x)] [(.ref b_2), (.ref a1)])) rfl rfl (hb hby d9_15)
  have F_10 : Fld Z h_9 a1 "com/example/optimistik/optimistik/engine/CommitChecks" "reads" "Lcom/example/optimistik/optimistik/engine/IdentitySet;" rv := (Frd.keep K_8 nin0).other W_9 (Or.inr (slot_ne (Or.inl (own_w hw 15 rfl)) (Or.inl (own_w hw 19 rfl)) (by decide) (t := (.object "com/example/optimistik/optimistik/engine/IdentitySet")) (t' := (.object "java/util/List")) (by decide) (by decide)))
  have F_11 : Fld Z h_9 a1 "com/example/optimistik/optimistik/engine/CommitChecks" "scans" "Ljava/util/List;" sv := (Fsc.keep K_8 nin0).other W_9 (Or.inr (slot_ne (Or.inl (own_w hw 17 rfl)) (Or.inl (own_w hw 19 rfl)) (by decide) (t := (.object "java/util/List")) (t' := (.object "java/util/List")) (by decide) (by decide)))
  have F_12 : Fld Z h_9 a1 "com/example/optimistik/optimistik/engine/CommitChecks" "inserted" "Ljava/util/List;" (.ref b_2) := (Fin.keep K_8 nin0).same W_9
  have N_9 := Fr.snoc X_9 N_7 g1
  refine own_via st_9 ?_
  show own_Go p e below _ (T_9.setTop (mkF m 18 #[.val (.ref a1), .val .null, .val (.ref x)] []))
  refine own_via (fun _ => XS.aloadN X_9.here hx rfl (hb hby d9_18) rfl rfl) ?_
  show own_Go p e below _ (T_9.setTop (mkF m 19 #[.val (.ref a1), .val .null, .val (.ref x)] [(.ref a1)]))
  obtain ⟨T_13, X_13, e_13, st_13⟩ := getF X_9 hx hZ hown (host := "") (Or.inl (own_w hw 18 rfl)) Via.refl e_9 F_12 (g := (mkF m 19 #[.val (.ref a1), .val .null, .val (.ref x)] [(.ref a1)])) rfl rfl (hb hby d9_19)
  refine own_via st_13 ?_
  show own_Go p e below _ (T_13.setTop (mkF m 22 #[.val (.ref a1), .val .null, .val (.ref x)] [(.ref b_2)]))
  obtain ⟨T_14, h_14, X_14, e_14, E_14, A_14, D_14, -, st_14⟩ := newO X_13 hx hZ hown (own_w hw 79 rfl) (own_w hw 80 rfl) (own_w hw 81 rfl) e_13 (g := (mkF m 22 #[.val (.ref a1), .val .null, .val (.ref x)] [(.ref b_2)])) rfl (hb hby d9_22) (by decide) (by decide)
  obtain ⟨b_14, g_14⟩ : ∃ z, z = h_9.size := ⟨_, rfl⟩
  rw [← g_14] at A_14 D_14 st_14
  have F_15 : Fld Z h_14 b_14 "com/example/optimistik/optimistik/engine/CommitChecks$RowAt" "table" "Lcom/example/optimistik/optimistik/engine/EngineTable;" .null := D_14 (Or.inr (own_w hw 92 rfl)) (ty := (.object "com/example/optimistik/optimistik/engine/EngineTable")) (by decide)
  have F_16 : Fld Z h_14 b_14 "com/example/optimistik/optimistik/engine/CommitChecks$RowAt" "key" "Ljava/lang/Object;" .null := D_14 (Or.inr (own_w hw 94 rfl)) (ty := (.object "java/lang/Object")) (by decide)
  refine own_via st_14 ?_
  show own_Go p e below _ (T_14.setTop (mkF m 25 #[.val (.ref a1), .val .null, .val (.ref x)] [(.ref b_14), (.ref b_2)]))
  refine own_via (fun _ => XS.dup X_14.here hx rfl (hb hby d9_25) rfl rfl) ?_
  show own_Go p e below _ (T_14.setTop (mkF m 26 #[.val (.ref a1), .val .null, .val (.ref x)] [(.ref b_14), (.ref b_14), (.ref b_2)]))
  refine own_via (fun _ => XS.aloadN X_14.here hx rfl (hb hby d9_26) rfl rfl) ?_
  show own_Go p e below _ (T_14.setTop (mkF m 27 #[.val (.ref a1), .val .null, .val (.ref x)] [.null, (.ref b_14), (.ref b_14), (.ref b_2)]))
  refine own_via (fun _ => XS.aloadN X_14.here hx rfl (hb hby d9_27) rfl rfl) ?_
  show own_Go p e below _ (T_14.setTop (mkF m 28 #[.val (.ref a1), .val .null, .val (.ref x)] [(.ref x), .null, (.ref b_14), (.ref b_14), (.ref b_2)]))
  have K_17 : Keep h0 h_9 [a1] := Keep.wr (ws := [a1]) (own_keep_mono K_8 (by simp)) W_9 (Or.inl (List.mem_of_getElem? (i := 0) rfl))
  have K_18 : Keep h0 h_14 [a1] := K_17.ext E_14
  obtain ⟨_, _, ⟨T_19, L_19, k_19, n_19⟩, -, X_19, ⟨Lc_19, hQ_19, l_19, y_19, z_19⟩, st_19⟩ := own_specialRef X_14 hx (y := (⟨"com/example/optimistik/optimistik/engine/CommitChecks$RowAt", "<init>", "(Lcom/example/optimistik/optimistik/engine/EngineTable;Ljava/lang/Object;)V"⟩ : MethodName)) rfl hZ hown (own_w hw 82 rfl) (mvT hZ (own_w hw 83 rfl)) (mvT hZ (own_w hw 84 rfl)) (by decide) (backOf (W := 2) (rmrowAt l Z a0 hw [] b_14 x h_14 n0 (Nat.le_trans Z0 K_18.1) A_14 F_15 F_16 (Nat.le_trans Z0 (Nat.le_trans K_17.1 (Nat.le_of_eq g_14.symm)))) hZ (own_w hw 84 rfl) (own_w hw 81 rfl) (by decide) (by decide)) (g := (mkF m 28 #[.val (.ref a1), .val .null, .val (.ref x)] [(.ref x), .null, (.ref b_14), (.ref b_14), (.ref b_2)])) rfl (by rw [hml]; rfl) (a := b_14) (argsL := [.null, (.ref x)]) (rest := [(.ref b_14), (.ref b_2)]) (lenOf pd_11 rfl) rfl (by show 2 * 0 + _ ≤ _; exact Nat.le_of_eq rfl) (hb hby d9_28) (fun _ _ => ⟨rfl, e_14, (by decide : 2 + 0 ≤ _), (by decide : 5 + 0 ≤ _)⟩)
  dsimp only [Pt.U, Pt.locs, Pt.cells, Pt.slots] at X_19 l_19 y_19 z_19 st_19 hQ_19
  subst l_19 y_19 z_19
  obtain ⟨rfl, Nq_19, K_19q⟩ := hQ_19
  have N_19 := Fr.app N_9 Nq_19
  refine own_via (fun _ k => st_19.trans k) ?_
  show own_Go p e below _ (T_19.setTop (mkF m 31 #[.val (.ref a1), .val .null, .val (.ref x)] [(.ref b_14), (.ref b_2)]))
  have K_20 : Keep h_14 T_19.heap [b_14] := Keep.trans (ws := [b_14]) (own_keep_mono (Keep.refl h_14 []) (by simp)) K_19q (allS (Or.inl (List.mem_of_getElem? (i := 0) rfl)) all0)
  have I_21 : Ins Z T_19.heap b_14 "java/lang/Object" true := Ins.of_exa (A_14.keep K_20) (own_w hw 129 rfl)
  have K_22 : Keep h_2 T_7.heap [b_2] := Keep.trans (ws := [b_2]) (own_keep_mono (Keep.refl h_2 []) (by simp)) K_7q (allS (Or.inl (List.mem_of_getElem? (i := 0) rfl)) all0)
  have K_23 : Keep h_2 h_9 [b_2, a1] := Keep.wr (ws := [b_2, a1]) (own_keep_mono K_22 (by simp)) W_9 (Or.inl (List.mem_of_getElem? (i := 1) rfl))
  have K_24 : Keep h_2 h_14 [b_2, a1] := K_23.ext E_14
  have K_25 : Keep h_2 T_19.heap [b_2, a1] := Keep.trans (ws := [b_2, a1]) K_24 K_19q (allS (Or.inr (Nat.le_trans K_23.1 (Nat.le_of_eq g_14.symm))) all0)
  have K_26 : Keep T_7.heap h_9 [a1] := Keep.wr (ws := [a1]) (own_keep_mono (Keep.refl T_7.heap []) (by simp)) W_9 (Or.inl (List.mem_of_getElem? (i := 0) rfl))
  have K_27 : Keep T_7.heap h_14 [a1] := K_26.ext E_14
  have K_28 : Keep T_7.heap T_19.heap [a1] := Keep.trans (ws := [a1]) K_27 K_19q (allS (Or.inr (Nat.le_trans K_26.1 (Nat.le_of_eq g_14.symm))) all0)
  have K_29 : Keep h0 T_19.heap [a1] := Keep.trans (ws := [a1]) K_18 K_19q (allS (Or.inr (Nat.le_trans K_17.1 (Nat.le_of_eq g_14.symm))) all0)
  obtain ⟨cq_30, kq_30, q_30a, q_30b, q_30c⟩ := isOf hZ rfl (A_2.keep K_25)
  obtain ⟨_, _, ⟨T_30, L_30, k_30, n_30⟩, -, X_30, ⟨Lc_30, hQ_30, l_30, y_30, z_30⟩, st_30⟩ := X_19.interfaceBack hx (xi := (⟨"java/util/List", "add", "(Ljava/lang/Object;)Z"⟩ : MethodName)) (y := (⟨"java/util/ArrayList", "add", "(Ljava/lang/Object;)Z"⟩ : MethodName)) hown (mvT hZ (own_w hw 95 rfl)) (mvT hZ (own_w hw 96 rfl)) (mvT hZ (own_w hw 97 rfl)) (mvT hZ (own_w hw 98 rfl)) (mvT hZ (own_w hw 99 rfl)) (mvT hZ (own_w hw 100 rfl)) (mvT hZ (own_w hw 101 rfl)) (mvT hZ (own_w hw 102 rfl)) (by decide) (backOf (W := 0) (rmaddA l Z a0 hw [] b_2 b_14 dc kd T_19.heap n0 (Nat.le_trans Z0 K_29.1) (O0.keep K_29 (allS g1 all0)) (A_2.keep K_25) (q_7_0.keep K_28 (ninS (Ne.symm (Nat.ne_of_lt (Nat.lt_of_lt_of_le E1.lt (Nat.le_of_eq g_2.symm)))) nin0)) (q_7_1.keep K_28 (ninS (Ne.symm (Nat.ne_of_lt (Nat.lt_of_lt_of_le E1.lt (Nat.le_of_eq g_2.symm)))) nin0)) (q_7_2.keep K_28 (ninS (Ne.symm (Nat.ne_of_lt (Nat.lt_of_lt_of_le E1.lt (Nat.le_of_eq g_2.symm)))) nin0)) (Nat.le_trans Z0 (Nat.le_of_eq g_2.symm)) Sdc Adc I_21) hZ (own_w hw 103 rfl) (own_w hw 57 rfl) (by decide) (by decide)) q_30a q_30b q_30c (g := (mkF m 31 #[.val (.ref a1), .val .null, .val (.ref x)] [(.ref b_14), (.ref b_2)])) rfl (by rw [hml]; rfl) (Steps.refl _) (argsL := [(.ref b_14)]) (rest := []) (lenOf pd_6 rfl) rfl (by show 2 * 0 + _ ≤ _; exact Nat.le_of_eq rfl) (hb hby d9_31) (fun _ _ => ⟨rfl, rfl, (by decide : 2 + 1 ≤ _), (by decide : 5 + 10 ≤ _)⟩)
  dsimp only [Pt.U, Pt.locs, Pt.cells, Pt.slots] at X_30 l_30 y_30 z_30 st_30 hQ_30
  subst l_30 y_30 z_30
  obtain ⟨r_31, u_32, rfl, Nq_30, K_30q, q_30_0, q_30_1, q_30_2, q_30_3, q_30_4, q_30_5⟩ := hQ_30
  have N_30 := Fr.app N_19 Nq_30
  refine own_via (fun _ k => st_30.trans k) ?_
  show own_Go p e below _ (T_30.setTop (mkF m 36 #[.val (.ref a1), .val .null, .val (.ref x)] [(.int (1 : Int32))]))
  refine own_via (fun _ => XS.pop X_30.here hx rfl (hb hby d9_36) rfl rfl) ?_
  show own_Go p e below _ (T_30.setTop (mkF m 37 #[.val (.ref a1), .val .null, .val (.ref x)] []))
  have ne_33 : r_31 ≠ b_2 := (Ne.symm (Nat.ne_of_lt (Nat.lt_of_lt_of_le (Nat.lt_of_lt_of_le A_2.lt K_25.1) q_30_0)))
  have K_34 : Keep h_2 T_30.heap [b_2, a1] := Keep.trans (ws := [b_2, a1]) K_25 K_30q (allS (Or.inl (List.mem_of_getElem? (i := 0) rfl)) all0)
  have K_35 : Keep h_9 h_14 [] := (Keep.refl h_9 []).ext E_14
  have K_36 : Keep h_9 T_19.heap [] := Keep.trans (ws := []) K_35 K_19q (allS (Or.inr (Nat.le_of_eq g_14.symm)) all0)
  have K_37 : Keep h_9 T_30.heap [b_2] := Keep.trans (ws := [b_2]) (own_keep_mono K_36 (by simp)) K_30q (allS (Or.inl (List.mem_of_getElem? (i := 0) rfl)) all0)
  have K_38 : Keep h0 T_30.heap [a1] := Keep.trans (ws := [a1]) K_29 K_30q (allS (Or.inr (Nat.le_of_eq g_2.symm)) all0)
  exact own_ret0 X_30 Bd.notSynchronized hx Bd.returns (hb hby d9_37) (by decide) (by decide) ⟨b_2, r_31, u_32, [(.ref b_14), .null, .null, .null, .null, .null, .null, .null, .null, .null], rfl, N_30, K_38, (Nat.le_of_eq g_2.symm), (Nat.le_trans K_29.1 q_30_0), ne_33, (A_2.keep K_34), q_30_1, q_30_2, rfl, q_30_3, q_30_4, q_30_5, (F_10.keep K_37 (ninS (Nat.ne_of_lt (Nat.lt_of_lt_of_le E1.lt (Nat.le_of_eq g_2.symm))) nin0)), (F_11.keep K_37 (ninS (Nat.ne_of_lt (Nat.lt_of_lt_of_le E1.lt (Nat.le_of_eq g_2.symm))) nin0)), (F_12.keep K_37 (ninS (Nat.ne_of_lt (Nat.lt_of_lt_of_le E1.lt (Nat.le_of_eq g_2.symm))) nin0))⟩
theorem ef_insO (m : MethodId) (a1 : Addr) (x : Addr) : entryFrame m #[(.ref a1), .null, (.ref x)] 3 = mkF m 0 #[.val (.ref a1), .val .null, .val (.ref x)] [] := by first | (simp [entryFrame, mkF, argsToLocals, Value.category]; done) | rfl
def QinsO (Z : State) (a1 : Addr) (x : Addr) (li : Addr) (mm : Int32) (ar : Addr) (k : ClassId) (vs : List Value) (n : Nat) (h0 : Heap) (n0 : Nat) (v : Option Value) (h : Heap) (L : List Loc) : Prop := ∃ ws : List Value, v = none ∧ Fr n0 L ∧ Keep h0 h [li, ar] ∧ (Arv Z h ar k (.object "java/lang/Object") (10 : Int32) ws .null) ∧ (ws.length = 10) ∧ (Fld Z h li "java/util/AbstractList" "modCount" "I" (.int (mm + (1 : Int32)))) ∧ (Fld Z h li "java/util/ArrayList" "size" "I" (.int (Int32.ofNat (n + 1)))) ∧ (Fld Z h li "java/util/ArrayList" "elementData" "[Ljava/lang/Object;" (.ref ar))
set_option maxRecDepth 65536 in
set_option maxHeartbeats 40000000 in
theorem rminsO (l : Launch) (Z : State) (a0 : Array Value) (hw : ∀ d ∈ tables_1, d.before a0 Z = true) (ws : List Jvm.Cond) (a1 : Addr) (x : Addr) (li : Addr) (mm : Int32) (ar : Addr) (k : ClassId) (vs : List Value) (n : Nat) (h0 : Heap) (n0 : Nat) (Z0 : n0 ≤ h0.size) (O0 : Old Z n0 h0) (Fin : Fld Z h0 a1 "com/example/optimistik/optimistik/engine/CommitChecks" "inserted" "Ljava/util/List;" (.ref li)) (El : Exa Z h0 li "java/util/ArrayList") (Fm : Fld Z h0 li "java/util/AbstractList" "modCount" "I" (.int mm)) (Fz : Fld Z h0 li "java/util/ArrayList" "size" "I" (.int (Int32.ofNat n))) (Fe : Fld Z h0 li "java/util/ArrayList" "elementData" "[Ljava/lang/Object;" (.ref ar)) (Aar : Arv Z h0 ar k (.object "java/lang/Object") (10 : Int32) vs .null) (Ok : Ovr Z k "java/lang/Object") (hv : vs.length = 10) (hn : n < 9) (gl : n0 ≤ li) (ga : n0 ≤ ar) (nea : ar ≠ li) :
    MetFree l (⟨"com/example/optimistik/optimistik/engine/CommitChecks", "noteInsert", "(Lcom/example/optimistik/optimistik/engine/EngineTable;Ljava/lang/Object;)V"⟩ : MethodName) (head1 (Jvm.Cond.code (⟨"com/example/optimistik/optimistik/engine/CommitChecks", "noteInsert", "(Lcom/example/optimistik/optimistik/engine/EngineTable;Ljava/lang/Object;)V"⟩ : MethodName) prog_12_method_5_code 3 none :: ws) ({ frames := 3, cells := 1, slots := 2, locals := 60 } : Room)) (fun a U => a = #[(.ref a1), .null, (.ref x)] ∧ Z.Warmed39 U.vm ∧ U.heap = h0) (fun _ _ _ _ _ => True) (fun _ U o U' => ∃ v L, o = .returned v ∧ QinsO Z a1 x li mm ar k vs n h0 n0 v U'.heap L ∧ FrameEnd U o U' L ({ frames := 3, cells := 1, slots := 2, locals := 60 } : Room).cells ({ frames := 3, cells := 1, slots := 2, locals := 60 } : Room).slots) := by
  refine MetFree.of_bodySF (plainFor_of_name pn_com_example_optimistik_optimistik_engine_CommitChecks) hisR ?_
  intro p e s m args below meth c s₁ Bd hml0 hP hK
  obtain ⟨rfl, hZ, hH0⟩ := hP
  have hx := Bd.exec
  have hby := Bd.bytes
  have hml : c.maxLocals = 3 := hml0
  have hown : s.vm.findClass "com/example/optimistik/optimistik/engine/CommitChecks" = some m.cls := findClass_of_methodNamed Bd.named
  have hnm := (name_of_methodNamed Bd.named Bd.method).1
  have X0 : Stand p l e ({ frames := 3, cells := 1, slots := 2, locals := 60 } : Room) s m #[(.ref a1), .null, (.ref x)] below meth c s₁ [] 0 0 := Stand.of_body Bd
  have e0 : s₁.heap = h0 := by rw [← hH0, Bd.state]; rfl
  have N0 := Fr.nil n0
  refine own_cast (ef_insO m a1 x) ?_
  show own_Go p e below (fun o U' => ∃ v L, o = .returned v ∧ QinsO Z a1 x li mm ar k vs n h0 n0 v U'.heap L ∧ FrameEnd s o U' L ({ frames := 3, cells := 1, slots := 2, locals := 60 } : Room).cells ({ frames := 3, cells := 1, slots := 2, locals := 60 } : Room).slots) (s₁.setTop (mkF m 0 #[.val (.ref a1), .val .null, .val (.ref x)] []))
  refine own_via (fun _ => XS.aloadN X0.here hx rfl (hb hby d9_0) rfl rfl) ?_
  show own_Go p e below _ (s₁.setTop (mkF m 1 #[.val (.ref a1), .val .null, .val (.ref x)] [(.ref a1)]))
  obtain ⟨T_1, X_1, e_1, st_1⟩ := getF X0 hx hZ hown (host := "") (Or.inl (own_w hw 18 rfl)) Via.refl e0 Fin (g := (mkF m 1 #[.val (.ref a1), .val .null, .val (.ref x)] [(.ref a1)])) rfl rfl (hb hby d9_1)
  refine own_via st_1 ?_
  show own_Go p e below _ (T_1.setTop (mkF m 4 #[.val (.ref a1), .val .null, .val (.ref x)] [(.ref li)]))
  refine own_via (fun _ => XS.ifnonnullYes X_1.here hx rfl (pc0 := 4) (pc' := 18) rfl (hb hby d9_4) rfl (by decide) (by decide)) ?_
  show own_Go p e below _ (T_1.setTop (mkF m 18 #[.val (.ref a1), .val .null, .val (.ref x)] []))
  refine own_via (fun _ => XS.aloadN X_1.here hx rfl (hb hby d9_18) rfl rfl) ?_
  show own_Go p e below _ (T_1.setTop (mkF m 19 #[.val (.ref a1), .val .null, .val (.ref x)] [(.ref a1)]))
  obtain ⟨T_2, X_2, e_2, st_2⟩ := getF X_1 hx hZ hown (host := "") (Or.inl (own_w hw 18 rfl)) Via.refl e_1 Fin (g := (mkF m 19 #[.val (.ref a1), .val .null, .val (.ref x)] [(.ref a1)])) rfl rfl (hb hby d9_19)
  refine own_via st_2 ?_
  show own_Go p e below _ (T_2.setTop (mkF m 22 #[.val (.ref a1), .val .null, .val (.ref x)] [(.ref li)]))
  obtain ⟨T_3, h_3, X_3, e_3, E_3, A_3, D_3, -, st_3⟩ := newO X_2 hx hZ hown (own_w hw 79 rfl) (own_w hw 80 rfl) (own_w hw 81 rfl) e_2 (g := (mkF m 22 #[.val (.ref a1), .val .null, .val (.ref x)] [(.ref li)])) rfl (hb hby d9_22) (by decide) (by decide)
  obtain ⟨b_3, g_3⟩ : ∃ z, z = h0.size := ⟨_, rfl⟩
  rw [← g_3] at A_3 D_3 st_3
  have F_4 : Fld Z h_3 b_3 "com/example/optimistik/optimistik/engine/CommitChecks$RowAt" "table" "Lcom/example/optimistik/optimistik/engine/EngineTable;" .null := D_3 (Or.inr (own_w hw 92 rfl)) (ty := (.object "com/example/optimistik/optimistik/engine/EngineTable")) (by decide)
  have F_5 : Fld Z h_3 b_3 "com/example/optimistik/optimistik/engine/CommitChecks$RowAt" "key" "Ljava/lang/Object;" .null := D_3 (Or.inr (own_w hw 94 rfl)) (ty := (.object "java/lang/Object")) (by decide)
  refine own_via st_3 ?_
  show own_Go p e below _ (T_3.setTop (mkF m 25 #[.val (.ref a1), .val .null, .val (.ref x)] [(.ref b_3), (.ref li)]))
  refine own_via (fun _ => XS.dup X_3.here hx rfl (hb hby d9_25) rfl rfl) ?_
  show own_Go p e below _ (T_3.setTop (mkF m 26 #[.val (.ref a1), .val .null, .val (.ref x)] [(.ref b_3), (.ref b_3), (.ref li)]))
  refine own_via (fun _ => XS.aloadN X_3.here hx rfl (hb hby d9_26) rfl rfl) ?_
  show own_Go p e below _ (T_3.setTop (mkF m 27 #[.val (.ref a1), .val .null, .val (.ref x)] [.null, (.ref b_3), (.ref b_3), (.ref li)]))
  refine own_via (fun _ => XS.aloadN X_3.here hx rfl (hb hby d9_27) rfl rfl) ?_
  show own_Go p e below _ (T_3.setTop (mkF m 28 #[.val (.ref a1), .val .null, .val (.ref x)] [(.ref x), .null, (.ref b_3), (.ref b_3), (.ref li)]))
  have K_6 : Keep h0 h_3 [] := (Keep.refl h0 []).ext E_3
  obtain ⟨_, _, ⟨T_7, L_7, k_7, n_7⟩, -, X_7, ⟨Lc_7, hQ_7, l_7, y_7, z_7⟩, st_7⟩ := own_specialRef X_3 hx (y := (⟨"com/example/optimistik/optimistik/engine/CommitChecks$RowAt", "<init>", "(Lcom/example/optimistik/optimistik/engine/EngineTable;Ljava/lang/Object;)V"⟩ : MethodName)) rfl hZ hown (own_w hw 82 rfl) (mvT hZ (own_w hw 83 rfl)) (mvT hZ (own_w hw 84 rfl)) (by decide) (backOf (W := 2) (rmrowAt l Z a0 hw [] b_3 x h_3 n0 (Nat.le_trans Z0 K_6.1) A_3 F_4 F_5 (Nat.le_trans Z0 (Nat.le_of_eq g_3.symm))) hZ (own_w hw 84 rfl) (own_w hw 81 rfl) (by decide) (by decide)) (g := (mkF m 28 #[.val (.ref a1), .val .null, .val (.ref x)] [(.ref x), .null, (.ref b_3), (.ref b_3), (.ref li)])) rfl (by rw [hml]; rfl) (a := b_3) (argsL := [.null, (.ref x)]) (rest := [(.ref b_3), (.ref li)]) (lenOf pd_11 rfl) rfl (by show 2 * 0 + _ ≤ _; exact Nat.le_of_eq rfl) (hb hby d9_28) (fun _ _ => ⟨rfl, e_3, (by decide : 1 + 0 ≤ _), (by decide : 2 + 0 ≤ _)⟩)
  dsimp only [Pt.U, Pt.locs, Pt.cells, Pt.slots] at X_7 l_7 y_7 z_7 st_7 hQ_7
  subst l_7 y_7 z_7
  obtain ⟨rfl, Nq_7, K_7q⟩ := hQ_7
  have N_7 := Fr.app N0 Nq_7
  refine own_via (fun _ k => st_7.trans k) ?_
  show own_Go p e below _ (T_7.setTop (mkF m 31 #[.val (.ref a1), .val .null, .val (.ref x)] [(.ref b_3), (.ref li)]))
  have K_8 : Keep h_3 T_7.heap [b_3] := Keep.trans (ws := [b_3]) (own_keep_mono (Keep.refl h_3 []) (by simp)) K_7q (allS (Or.inl (List.mem_of_getElem? (i := 0) rfl)) all0)
  have I_9 : Ins Z T_7.heap b_3 "java/lang/Object" true := Ins.of_exa (A_3.keep K_8) (own_w hw 129 rfl)
  have K_10 : Keep h0 T_7.heap [] := Keep.trans (ws := []) K_6 K_7q (allS (Or.inr (Nat.le_of_eq g_3.symm)) all0)
  obtain ⟨cq_11, kq_11, q_11a, q_11b, q_11c⟩ := isOf hZ rfl (El.keep K_10)
  obtain ⟨_, _, ⟨T_11, L_11, k_11, n_11⟩, -, X_11, ⟨Lc_11, hQ_11, l_11, y_11, z_11⟩, st_11⟩ := X_7.interfaceBack hx (xi := (⟨"java/util/List", "add", "(Ljava/lang/Object;)Z"⟩ : MethodName)) (y := (⟨"java/util/ArrayList", "add", "(Ljava/lang/Object;)Z"⟩ : MethodName)) hown (mvT hZ (own_w hw 95 rfl)) (mvT hZ (own_w hw 96 rfl)) (mvT hZ (own_w hw 97 rfl)) (mvT hZ (own_w hw 98 rfl)) (mvT hZ (own_w hw 99 rfl)) (mvT hZ (own_w hw 100 rfl)) (mvT hZ (own_w hw 101 rfl)) (mvT hZ (own_w hw 102 rfl)) (by decide) (backOf (W := 0) (rmaddB l Z a0 hw [] li b_3 mm ar k vs n T_7.heap n0 (Nat.le_trans Z0 K_10.1) (El.keep K_10) (Fm.keep K_10 nin0) (Fz.keep K_10 nin0) (Fe.keep K_10 nin0) gl (Aar.keep K_10 nin0) Ok hv hn ga nea I_9) hZ (own_w hw 103 rfl) (own_w hw 57 rfl) (by decide) (by decide)) q_11a q_11b q_11c (g := (mkF m 31 #[.val (.ref a1), .val .null, .val (.ref x)] [(.ref b_3), (.ref li)])) rfl (by rw [hml]; rfl) (Steps.refl _) (argsL := [(.ref b_3)]) (rest := []) (lenOf pd_6 rfl) rfl (by show 2 * 0 + _ ≤ _; exact Nat.le_of_eq rfl) (hb hby d9_31) (fun _ _ => ⟨rfl, rfl, (by decide : 1 + 0 ≤ _), (by decide : 2 + 0 ≤ _)⟩)
  dsimp only [Pt.U, Pt.locs, Pt.cells, Pt.slots] at X_11 l_11 y_11 z_11 st_11 hQ_11
  subst l_11 y_11 z_11
  obtain ⟨rfl, Nq_11, K_11q, q_11_0, q_11_1, q_11_2, q_11_3⟩ := hQ_11
  have N_11 := Fr.app N_7 Nq_11
  refine own_via (fun _ k => st_11.trans k) ?_
  show own_Go p e below _ (T_11.setTop (mkF m 36 #[.val (.ref a1), .val .null, .val (.ref x)] [(.int (1 : Int32))]))
  refine own_via (fun _ => XS.pop X_11.here hx rfl (hb hby d9_36) rfl rfl) ?_
  show own_Go p e below _ (T_11.setTop (mkF m 37 #[.val (.ref a1), .val .null, .val (.ref x)] []))
  have K_12 : Keep h0 T_11.heap [li, ar] := Keep.trans (ws := [li, ar]) (own_keep_mono K_10 (by simp)) K_11q (allS (Or.inl (List.mem_of_getElem? (i := 0) rfl)) (allS (Or.inl (List.mem_of_getElem? (i := 1) rfl)) all0))
  exact own_ret0 X_11 Bd.notSynchronized hx Bd.returns (hb hby d9_37) (by decide) (by decide) ⟨(vs.set n (.ref b_3)), rfl, N_11, K_12, q_11_0, (by rw [List.length_set]; exact hv), q_11_1, q_11_2, q_11_3⟩
def own_Rd (Z : State) (h : Heap) (v : Value) (F : List Addr) : Prop := (v = .null ∧ F = []) ∨ ∃ (a b : Addr) (k : ClassId), v = .ref a ∧ F = [a, b] ∧ Exa Z h a "com/example/optimistik/optimistik/engine/IdentitySet" ∧ Fld Z h a "com/example/optimistik/optimistik/engine/IdentitySet" "elements" "[Ljava/lang/Object;" (.ref b) ∧ Fld Z h a "com/example/optimistik/optimistik/engine/IdentitySet" "slots" "[I" .null ∧ Fld Z h a "com/example/optimistik/optimistik/engine/IdentitySet" "count" "I" (.int (1 : Int32)) ∧ Arv Z h b k (.object "java/lang/Object") (2 : Int32) [.null, .null] .null
def own_Ls (Z : State) (h : Heap) (t : Nat) (v : Value) (F : List Addr) : Prop := (v = .null ∧ F = []) ∨ ∃ (a b : Addr) (k : ClassId) (vs : List Value) (n : Nat) (mm : Int32), n ≤ t ∧ v = .ref a ∧ F = [a, b] ∧ Exa Z h a "java/util/ArrayList" ∧ Fld Z h a "java/util/AbstractList" "modCount" "I" (.int mm) ∧ Fld Z h a "java/util/ArrayList" "size" "I" (.int (Int32.ofNat n)) ∧ Fld Z h a "java/util/ArrayList" "elementData" "[Ljava/lang/Object;" (.ref b) ∧ Arv Z h b k (.object "java/lang/Object") (10 : Int32) vs .null ∧ Ovr Z k "java/lang/Object" ∧ vs.length = 10
def own_CC (Z : State) (h : Heap) (cc : Addr) (n0 t : Nat) (b : Int32) : Prop := ∃ (rv sv iv : Value) (Lr Ls Li : List Addr), Exa Z h cc "com/example/optimistik/optimistik/engine/CommitChecks" ∧ Fld Z h cc "com/example/optimistik/optimistik/engine/CommitChecks" "reads" "Lcom/example/optimistik/optimistik/engine/IdentitySet;" rv ∧ Fld Z h cc "com/example/optimistik/optimistik/engine/CommitChecks" "scans" "Ljava/util/List;" sv ∧ Fld Z h cc "com/example/optimistik/optimistik/engine/CommitChecks" "inserted" "Ljava/util/List;" iv ∧ own_Rd Z h rv Lr ∧ own_Ls Z h t sv Ls ∧ own_Ls Z h t iv Li ∧ (cc :: (Lr ++ (Ls ++ Li))).Nodup ∧ (∀ x ∈ cc :: (Lr ++ (Ls ++ Li)), n0 ≤ x ∧ x < h.size) ∧ b = if rv = .null ∧ sv = .null ∧ iv = .null then 0 else 1
theorem own_Rd.keep {Z : State} {h h' : Heap} {v : Value} {F ws : List Addr} (G : own_Rd Z h v F) (K : Keep h h' ws) (d : ∀ x ∈ F, x ∉ ws) : own_Rd Z h' v F := by
  rcases G with q | ⟨a, b, k, rfl, rfl, E, F1, F2, F3, A⟩
  · exact Or.inl q
  · have da := d a (List.mem_cons_self ..)
    have db := d b (List.mem_cons_of_mem _ (List.mem_cons_self ..))
    exact Or.inr ⟨a, b, k, rfl, rfl, E.keep K, F1.keep K da, F2.keep K da, F3.keep K da, A.keep K db⟩
theorem own_Ls.keep {Z : State} {h h' : Heap} {t : Nat} {v : Value} {F ws : List Addr} (G : own_Ls Z h t v F) (K : Keep h h' ws) (d : ∀ x ∈ F, x ∉ ws) : own_Ls Z h' (t + 1) v F := by
  rcases G with q | ⟨a, b, k, vs, n, mm, hn, rfl, rfl, E, F1, F2, F3, A, O, hv⟩
  · exact Or.inl q
  · have da := d a (List.mem_cons_self ..)
    have db := d b (List.mem_cons_of_mem _ (List.mem_cons_self ..))
    exact Or.inr ⟨a, b, k, vs, n, mm, Nat.le_succ_of_le hn, rfl, rfl, E.keep K, F1.keep K da, F2.keep K da, F3.keep K da, A.keep K db, O, hv⟩
theorem own_nil {ws : List Addr} (h : Heap) : Keep h h [] := Keep.refl h []
theorem own_Ls.up {Z : State} {h : Heap} {t : Nat} {v : Value} {F : List Addr} (G : own_Ls Z h t v F) : own_Ls Z h (t + 1) v F := G.keep (Keep.refl h []) fun _ _ q => nomatch q
theorem own_CC.up {Z : State} {h : Heap} {cc : Addr} {n0 t : Nat} {b : Int32} (C : own_CC Z h cc n0 t b) : own_CC Z h cc n0 (t + 1) b := by
  obtain ⟨rv, sv, iv, Lr, Ls, Li, E1, F1, F2, F3, hRd, hSc, hIn, r⟩ := C
  exact ⟨rv, sv, iv, Lr, Ls, Li, E1, F1, F2, F3, hRd, hSc.up, hIn.up, r⟩
theorem own_Rd.ref {Z : State} {h : Heap} {v : Value} {F : List Addr} (G : own_Rd Z h v F) : v.isRef = true := by
  rcases G with ⟨rfl, -⟩ | ⟨a, b, k, rfl, -⟩ <;> rfl
theorem own_Ls.ref {Z : State} {h : Heap} {t : Nat} {v : Value} {F : List Addr} (G : own_Ls Z h t v F) : v.isRef = true := by
  rcases G with ⟨rfl, -⟩ | ⟨a, b, k, vs, n, mm, -, rfl, -⟩ <;> rfl
theorem own_dis {cc : Addr} {A B C : List Addr} (h : (cc :: (A ++ (B ++ C))).Nodup) : (cc ∉ A ∧ cc ∉ B ∧ cc ∉ C) ∧ (∀ x ∈ A, x ∉ B ∧ x ∉ C) ∧ (∀ x ∈ B, x ∉ A ∧ x ∉ C) ∧ (∀ x ∈ C, x ∉ A ∧ x ∉ B) ∧ A.Nodup ∧ B.Nodup ∧ C.Nodup := by
  obtain ⟨h1, h2⟩ := List.nodup_cons.mp h
  obtain ⟨hA, hBC, hd⟩ := List.nodup_append.mp h2
  obtain ⟨hB, hC, hd2⟩ := List.nodup_append.mp hBC
  simp only [List.mem_append, not_or] at h1
  exact ⟨⟨h1.1, h1.2.1, h1.2.2⟩, fun x hx => ⟨fun q => hd x hx x (List.mem_append_left _ q) rfl, fun q => hd x hx x (List.mem_append_right _ q) rfl⟩, fun x hx => ⟨fun q => hd x q x (List.mem_append_left _ hx) rfl, fun q => hd2 x hx x q rfl⟩, fun x hx => ⟨fun q => hd x q x (List.mem_append_right _ hx) rfl, fun q => hd2 x q x hx rfl⟩, hA, hB, hC⟩
theorem own_d1 {cc : Addr} {L : List Addr} (d : cc ∉ L) : ∀ x ∈ L, x ∉ [cc] := fun x hx q => d (by rw [← List.mem_singleton.mp q]; exact hx)
theorem own_perm2 (A C : List Addr) (a b : Addr) : (A ++ ([a, b] ++ C)).Perm (a :: b :: (A ++ ([] ++ C))) := (List.perm_middle).trans (List.Perm.cons a List.perm_middle)
theorem own_perm3 (A B : List Addr) (a b : Addr) : (A ++ (B ++ [a, b])).Perm (a :: b :: (A ++ (B ++ []))) := by
  have h := own_perm2 (A ++ B) [] a b
  simpa [List.append_assoc] using h
theorem own_nd {cc a b n0 m0 m1 : Nat} {L L' : List Nat} (hp : L'.Perm (a :: b :: L)) (hnd : (cc :: L).Nodup) (hge : ∀ x ∈ cc :: L, n0 ≤ x ∧ x < m0) (hm : m0 ≤ m1) (hn : n0 ≤ m0) (ha : m0 ≤ a) (ha' : a < m1) (hb : m0 ≤ b) (hb' : b < m1) (hab : b ≠ a) : (cc :: L').Nodup ∧ ∀ x ∈ cc :: L', n0 ≤ x ∧ x < m1 := by
  have hp' := List.Perm.cons cc hp
  obtain ⟨h1, h2⟩ := List.nodup_cons.mp hnd
  have hcc := hge cc (List.mem_cons_self ..)
  have hL : ∀ x ∈ L, n0 ≤ x ∧ x < m0 := fun x hx => hge x (List.mem_cons_of_mem _ hx)
  constructor
  · refine hp'.nodup_iff.mpr ?_
    refine List.nodup_cons.mpr ⟨fun q => ?_, List.nodup_cons.mpr ⟨fun q => ?_, List.nodup_cons.mpr ⟨fun q => ?_, h2⟩⟩⟩
    · rcases List.mem_cons.mp q with e | q
      · omega
      · rcases List.mem_cons.mp q with e | q
        · omega
        · exact h1 q
    · rcases List.mem_cons.mp q with e | q
      · exact hab e.symm
      · have := hL a q; omega
    · have := hL b q; omega
  · intro x hx
    have q := hp'.mem_iff.mp hx
    rcases List.mem_cons.mp q with rfl | q
    · omega
    · rcases List.mem_cons.mp q with rfl | q
      · omega
      · rcases List.mem_cons.mp q with rfl | q
        · omega
        · have := hL x q; omega
theorem own_lvY {p1 : Int32} {r u3 u4 : Addr} (e : (p1 = 3 ∧ r = u3) ∨ (p1 = 4 ∧ r = u4) ∨ (¬ p1 = 3 ∧ ¬ p1 = 4 ∧ r ≠ u3 ∧ r ≠ u4)) (hq : p1 = 3 ∨ p1 = 4) : r = u3 ∨ r = u4 := by
  rcases e with ⟨-, b⟩ | ⟨-, b⟩ | ⟨a, b, -⟩
  · exact Or.inl b
  · exact Or.inr b
  · exact hq.elim (fun q => absurd q a) (fun q => absurd q b)
theorem own_lvN {p1 : Int32} {r u3 u4 : Addr} (n34 : u3 ≠ u4) (e : (p1 = 3 ∧ r = u3) ∨ (p1 = 4 ∧ r = u4) ∨ (¬ p1 = 3 ∧ ¬ p1 = 4 ∧ r ≠ u3 ∧ r ≠ u4)) (hq : ¬ (p1 = 3 ∨ p1 = 4)) : r ≠ u3 ∧ r ≠ u4 := by
  rcases e with ⟨a, -⟩ | ⟨a, -⟩ | ⟨-, -, a, b⟩
  · exact absurd (Or.inl a) hq
  · exact absurd (Or.inr a) hq
  · exact ⟨a, b⟩
theorem own_lv4Y {p1 : Int32} {r u3 u4 : Addr} (e : (p1 = 3 ∧ r = u3) ∨ (p1 = 4 ∧ r = u4) ∨ (¬ p1 = 3 ∧ ¬ p1 = 4 ∧ r ≠ u3 ∧ r ≠ u4)) (hq : p1 = 4) : r = u4 := by
  rcases e with ⟨a, -⟩ | ⟨-, b⟩ | ⟨-, b, -⟩
  · exact absurd (a.symm.trans hq) (by decide)
  · exact b
  · exact absurd hq b
theorem own_lv4N {p1 : Int32} {r u3 u4 : Addr} (n34 : u3 ≠ u4) (e : (p1 = 3 ∧ r = u3) ∨ (p1 = 4 ∧ r = u4) ∨ (¬ p1 = 3 ∧ ¬ p1 = 4 ∧ r ≠ u3 ∧ r ≠ u4)) (hq : ¬ p1 = 4) : r ≠ u4 := by
  rcases e with ⟨-, b⟩ | ⟨a, -⟩ | ⟨-, -, -, b⟩
  · exact fun q => n34 (b.symm.trans q)
  · exact absurd a hq
  · exact b
theorem own_lev (x : Int32) : ((x.toUInt32 >>> ((2 : Int32) &&& 31).toUInt32).toInt32 % (5 : Int32)) = 0 ∨ ((x.toUInt32 >>> ((2 : Int32) &&& 31).toUInt32).toInt32 % (5 : Int32)) = 1 ∨ ((x.toUInt32 >>> ((2 : Int32) &&& 31).toUInt32).toInt32 % (5 : Int32)) = 2 ∨ ((x.toUInt32 >>> ((2 : Int32) &&& 31).toUInt32).toInt32 % (5 : Int32)) = 3 ∨ ((x.toUInt32 >>> ((2 : Int32) &&& 31).toUInt32).toInt32 % (5 : Int32)) = 4 := by
  have hn : 0 ≤ ((x.toUInt32 >>> ((2 : Int32) &&& 31).toUInt32).toInt32).toInt := by
    have e : ((2 : Int32) &&& 31).toUInt32 = 2 := by decide
    rw [e]
    have h1 : (x.toUInt32 >>> 2).toNat < 2 ^ 30 := by
      rw [UInt32.toNat_shiftRight]
      have := x.toUInt32.toNat_lt
      show x.toUInt32.toNat >>> 2 < _
      rw [Nat.shiftRight_eq_div_pow]; omega
    have h2 : ((x.toUInt32 >>> 2).toInt32).toInt = ((x.toUInt32 >>> 2).toNat : Int) := BitVec.toInt_eq_toNat_of_lt (by show 2 * (x.toUInt32 >>> 2).toNat < 2 ^ 32; omega)
    rw [h2]; omega
  generalize (x.toUInt32 >>> ((2 : Int32) &&& 31).toUInt32).toInt32 = y at hn ⊢
  have h1 : (y % (5 : Int32)).toInt = y.toInt.tmod 5 := by rw [Int32.toInt_mod]; rfl
  have h3 := Int.tmod_lt_of_pos y.toInt (show (0 : Int) < 5 by decide)
  have h4 := Int.tmod_nonneg 5 hn
  have key : ∀ c : Int32, (y % (5 : Int32)).toInt = c.toInt → y % (5 : Int32) = c := fun c e => Int32.toInt_inj.mp e
  have hc : (y % (5 : Int32)).toInt = 0 ∨ (y % (5 : Int32)).toInt = 1 ∨ (y % (5 : Int32)).toInt = 2 ∨ (y % (5 : Int32)).toInt = 3 ∨ (y % (5 : Int32)).toInt = 4 := by omega
  rcases hc with e | e | e | e | e
  · exact Or.inl (key 0 e)
  · exact Or.inr (Or.inl (key 1 e))
  · exact Or.inr (Or.inr (Or.inl (key 2 e)))
  · exact Or.inr (Or.inr (Or.inr (Or.inl (key 3 e))))
  · exact Or.inr (Or.inr (Or.inr (Or.inr (key 4 e))))

theorem d4_0 : decode method_4_code 0 = .ok (.iload_n 1, 1) := by decide +kernel
theorem d4_1 : decode method_4_code 1 = .ok (.iconst 3, 1) := by decide +kernel
theorem d4_2 : decode method_4_code 2 = .ok (.iand, 1) := by decide +kernel
theorem d4_3 : decode method_4_code 3 = .ok (.istore 4, 2) := by decide +kernel
theorem d4_5 : decode method_4_code 5 = .ok (.iload_n 1, 1) := by decide +kernel
theorem d4_6 : decode method_4_code 6 = .ok (.iconst 2, 1) := by decide +kernel
theorem d4_7 : decode method_4_code 7 = .ok (.iushr, 1) := by decide +kernel
theorem d4_8 : decode method_4_code 8 = .ok (.iconst 5, 1) := by decide +kernel
theorem d4_9 : decode method_4_code 9 = .ok (.irem, 1) := by decide +kernel
theorem d4_10 : decode method_4_code 10 = .ok (.istore 5, 2) := by decide +kernel
theorem d4_12 : decode method_4_code 12 = .ok (.iload 5, 2) := by decide +kernel
theorem d4_14 : decode method_4_code 14 = .ok (.invokestatic 38, 3) := by decide +kernel
theorem d4_17 : decode method_4_code 17 = .ok (.astore 6, 2) := by decide +kernel
theorem d4_19 : decode method_4_code 19 = .ok (.iload 4, 2) := by decide +kernel
theorem d4_21 : decode method_4_code 21 = .ok (.iconst 1, 1) := by decide +kernel
theorem d4_22 : decode method_4_code 22 = .ok (.if_icmp .ne 28, 3) := by decide +kernel
theorem d4_25 : decode method_4_code 25 = .ok (.aload_n 0, 1) := by decide +kernel
theorem d4_26 : decode method_4_code 26 = .ok (.aconst_null, 1) := by decide +kernel
theorem d4_27 : decode method_4_code 27 = .ok (.aload 6, 2) := by decide +kernel
theorem d4_29 : decode method_4_code 29 = .ok (.invokevirtual 42, 3) := by decide +kernel
theorem d4_32 : decode method_4_code 32 = .ok (.iload 5, 2) := by decide +kernel
theorem d4_34 : decode method_4_code 34 = .ok (.iconst 3, 1) := by decide +kernel
theorem d4_35 : decode method_4_code 35 = .ok (.if_icmp .eq 9, 3) := by decide +kernel
theorem d4_38 : decode method_4_code 38 = .ok (.iload 5, 2) := by decide +kernel
theorem d4_40 : decode method_4_code 40 = .ok (.iconst 4, 1) := by decide +kernel
theorem d4_41 : decode method_4_code 41 = .ok (.if_icmp .ne 7, 3) := by decide +kernel
theorem d4_44 : decode method_4_code 44 = .ok (.iconst 1, 1) := by decide +kernel
theorem d4_45 : decode method_4_code 45 = .ok (.goto 4, 3) := by decide +kernel
theorem d4_48 : decode method_4_code 48 = .ok (.iconst 0, 1) := by decide +kernel
theorem d4_49 : decode method_4_code 49 = .ok (.ireturn, 1) := by decide +kernel
theorem d4_50 : decode method_4_code 50 = .ok (.iload 4, 2) := by decide +kernel
theorem d4_52 : decode method_4_code 52 = .ok (.iconst 2, 1) := by decide +kernel
theorem d4_53 : decode method_4_code 53 = .ok (.if_icmp .ne 24, 3) := by decide +kernel
theorem d4_56 : decode method_4_code 56 = .ok (.aload_n 0, 1) := by decide +kernel
theorem d4_57 : decode method_4_code 57 = .ok (.aconst_null, 1) := by decide +kernel
theorem d4_58 : decode method_4_code 58 = .ok (.aconst_null, 1) := by decide +kernel
theorem d4_59 : decode method_4_code 59 = .ok (.aconst_null, 1) := by decide +kernel
theorem d4_60 : decode method_4_code 60 = .ok (.aload 6, 2) := by decide +kernel
theorem d4_62 : decode method_4_code 62 = .ok (.invokevirtual 46, 3) := by decide +kernel
theorem d4_65 : decode method_4_code 65 = .ok (.iload 5, 2) := by decide +kernel
theorem d4_67 : decode method_4_code 67 = .ok (.iconst 4, 1) := by decide +kernel
theorem d4_68 : decode method_4_code 68 = .ok (.if_icmp .ne 7, 3) := by decide +kernel
theorem d4_71 : decode method_4_code 71 = .ok (.iconst 1, 1) := by decide +kernel
theorem d4_72 : decode method_4_code 72 = .ok (.goto 4, 3) := by decide +kernel
theorem d4_75 : decode method_4_code 75 = .ok (.iconst 0, 1) := by decide +kernel
theorem d4_76 : decode method_4_code 76 = .ok (.ireturn, 1) := by decide +kernel
theorem d4_77 : decode method_4_code 77 = .ok (.iload 4, 2) := by decide +kernel
theorem d4_79 : decode method_4_code 79 = .ok (.iconst 3, 1) := by decide +kernel
theorem d4_80 : decode method_4_code 80 = .ok (.if_icmp .ne 14, 3) := by decide +kernel
theorem d4_83 : decode method_4_code 83 = .ok (.aload_n 0, 1) := by decide +kernel
theorem d4_84 : decode method_4_code 84 = .ok (.aconst_null, 1) := by decide +kernel
theorem d4_85 : decode method_4_code 85 = .ok (.lload_n 2, 1) := by decide +kernel
theorem d4_86 : decode method_4_code 86 = .ok (.invokestatic 50, 3) := by decide +kernel
theorem d4_89 : decode method_4_code 89 = .ok (.invokevirtual 56, 3) := by decide +kernel
theorem d4_92 : decode method_4_code 92 = .ok (.iconst 1, 1) := by decide +kernel
theorem d4_93 : decode method_4_code 93 = .ok (.ireturn, 1) := by decide +kernel
theorem d4_94 : decode method_4_code 94 = .ok (.iconst 0, 1) := by decide +kernel
theorem d4_95 : decode method_4_code 95 = .ok (.ireturn, 1) := by decide +kernel
theorem pd_12 : parseMethodDescriptor "(I)Lcom/example/optimistik/optimistik/model/IsolationLevel;" = some ⟨[.int], some (.object "com/example/optimistik/optimistik/model/IsolationLevel")⟩ := by decide +kernel
theorem pd_13 : parseMethodDescriptor "(Lcom/example/optimistik/optimistik/engine/Version;Lcom/example/optimistik/optimistik/model/IsolationLevel;)V" = some ⟨[(.object "com/example/optimistik/optimistik/engine/Version"), (.object "com/example/optimistik/optimistik/model/IsolationLevel")], none⟩ := by decide +kernel
theorem pd_14 : parseMethodDescriptor "(Lcom/example/optimistik/optimistik/engine/EngineTable;Lcom/example/optimistik/optimistik/model/KeyRange;Ljava/util/function/Predicate;Lcom/example/optimistik/optimistik/model/IsolationLevel;)V" = some ⟨[(.object "com/example/optimistik/optimistik/engine/EngineTable"), (.object "com/example/optimistik/optimistik/model/KeyRange"), (.object "java/util/function/Predicate"), (.object "com/example/optimistik/optimistik/model/IsolationLevel")], none⟩ := by decide +kernel
theorem pd_15 : parseMethodDescriptor "(J)Ljava/lang/Long;" = some ⟨[.long], some (.object "java/lang/Long")⟩ := by decide +kernel
theorem ef_step (m : MethodId) (cc : Addr) (p1 : Int32) (q1 : Int64) : entryFrame m #[(.ref cc), (.int p1), (.long q1)] 7 = mkF m 0 #[.val (.ref cc), .val (.int p1), .val (.long q1), .second, .unset, .unset, .unset] [] := by first | (simp [entryFrame, mkF, argsToLocals, Value.category]; done) | rfl
def Qstep (Z : State) (cc : Addr) (p1 : Int32) (q1 : Int64) (t : Nat) (b : Int32) (u0 : Addr) (u1 : Addr) (u2 : Addr) (u3 : Addr) (u4 : Addr) (dc : Addr) (kd : ClassId) (la : Addr) (lc : Cell) (lval : Int32 → Value) (h0 : Heap) (n0 : Nat) (v : Option Value) (h : Heap) (L : List Loc) : Prop := ∃ z : Int32, v = some (.int z) ∧ Fr n0 L ∧ h0.size ≤ h.size ∧ Old Z n0 h ∧ (z = 0 ∨ z = 1) ∧ (own_CC Z h cc n0 (t + 1) (if z = 0 then b else 1))
set_option maxRecDepth 65536 in
set_option maxHeartbeats 40000000 in
theorem rmstep (l : Launch) (Z : State) (a0 : Array Value) (hw : ∀ d ∈ tables_1, d.before a0 Z = true) (ws : List Jvm.Cond) (cc : Addr) (p1 : Int32) (q1 : Int64) (t : Nat) (b : Int32) (u0 : Addr) (u1 : Addr) (u2 : Addr) (u3 : Addr) (u4 : Addr) (dc : Addr) (kd : ClassId) (la : Addr) (lc : Cell) (lval : Int32 → Value) (h0 : Heap) (n0 : Nat) (Z0 : n0 ≤ h0.size) (O0 : Old Z n0 h0) (C0 : own_CC Z h0 cc n0 t b) (ht : t < 3) (Su0 : Sta Z Z.heap "com/example/optimistik/optimistik/model/IsolationLevel" "READ_UNCOMMITTED" "Lcom/example/optimistik/optimistik/model/IsolationLevel;" (.ref u0)) (Su1 : Sta Z Z.heap "com/example/optimistik/optimistik/model/IsolationLevel" "READ_COMMITTED" "Lcom/example/optimistik/optimistik/model/IsolationLevel;" (.ref u1)) (Su2 : Sta Z Z.heap "com/example/optimistik/optimistik/model/IsolationLevel" "SNAPSHOT" "Lcom/example/optimistik/optimistik/model/IsolationLevel;" (.ref u2)) (Su3 : Sta Z Z.heap "com/example/optimistik/optimistik/model/IsolationLevel" "REPEATABLE_READ" "Lcom/example/optimistik/optimistik/model/IsolationLevel;" (.ref u3)) (Su4 : Sta Z Z.heap "com/example/optimistik/optimistik/model/IsolationLevel" "SERIALIZABLE" "Lcom/example/optimistik/optimistik/model/IsolationLevel;" (.ref u4)) (n03 : u0 ≠ u3) (n13 : u1 ≠ u3) (n23 : u2 ≠ u3) (n04 : u0 ≠ u4) (n14 : u1 ≠ u4) (n24 : u2 ≠ u4) (n34 : u3 ≠ u4) (Sdc : Sta Z Z.heap "java/util/ArrayList" "DEFAULTCAPACITY_EMPTY_ELEMENTDATA" "[Ljava/lang/Object;" (.ref dc)) (Adc : Arv Z Z.heap dc kd (.object "java/lang/Object") (0 : Int32) [] .null) (Slc : Sta Z Z.heap "java/lang/Long$LongCache" "cache" "[Ljava/lang/Long;" (.ref la)) (hbx : Bxs Z la lc "java/lang/Long" "J" 256 lval) :
    MetFree l (⟨"com/example/optimistik/optimistik/engine/CommitChecksIsEmptyPinLaw", "step", "(Lcom/example/optimistik/optimistik/engine/CommitChecks;IJ)Z"⟩ : MethodName) (head1 (Jvm.Cond.code (⟨"com/example/optimistik/optimistik/engine/CommitChecksIsEmptyPinLaw", "step", "(Lcom/example/optimistik/optimistik/engine/CommitChecks;IJ)Z"⟩ : MethodName) method_4_code 7 (some .boolean) :: ws) ({ frames := 6, cells := 4, slots := 17, locals := 3110 } : Room)) (fun a U => a = #[(.ref cc), (.int p1), (.long q1)] ∧ Z.Warmed39 U.vm ∧ U.heap = h0) (fun _ _ _ _ _ => True) (fun _ U o U' => ∃ v L, o = .returned v ∧ Qstep Z cc p1 q1 t b u0 u1 u2 u3 u4 dc kd la lc lval h0 n0 v U'.heap L ∧ FrameEnd U o U' L ({ frames := 6, cells := 4, slots := 17, locals := 3110 } : Room).cells ({ frames := 6, cells := 4, slots := 17, locals := 3110 } : Room).slots) := by
  refine MetFree.of_bodySF (plainFor_of_name pn_com_example_optimistik_optimistik_engine_CommitChecksIsEmptyPinLaw) hisR ?_
  intro p e s m args below meth c s₁ Bd hml0 hP hK
  obtain ⟨rfl, hZ, hH0⟩ := hP
  have hx := Bd.exec
  have hby := Bd.bytes
  have hml : c.maxLocals = 7 := hml0
  have hown : s.vm.findClass "com/example/optimistik/optimistik/engine/CommitChecksIsEmptyPinLaw" = some m.cls := findClass_of_methodNamed Bd.named
  have hnm := (name_of_methodNamed Bd.named Bd.method).1
  have X0 : Stand p l e ({ frames := 6, cells := 4, slots := 17, locals := 3110 } : Room) s m #[(.ref cc), (.int p1), (.long q1)] below meth c s₁ [] 0 0 := Stand.of_body Bd
  have e0 : s₁.heap = h0 := by rw [← hH0, Bd.state]; rfl
  have N0 := Fr.nil n0
  refine own_cast (ef_step m cc p1 q1) ?_
  show own_Go p e below (fun o U' => ∃ v L, o = .returned v ∧ Qstep Z cc p1 q1 t b u0 u1 u2 u3 u4 dc kd la lc lval h0 n0 v U'.heap L ∧ FrameEnd s o U' L ({ frames := 6, cells := 4, slots := 17, locals := 3110 } : Room).cells ({ frames := 6, cells := 4, slots := 17, locals := 3110 } : Room).slots) (s₁.setTop (mkF m 0 #[.val (.ref cc), .val (.int p1), .val (.long q1), .second, .unset, .unset, .unset] []))
  have C1 := C0
  obtain ⟨rv, sv, iv, Lr, Ls, Li, E1, F1, F2, F3, hRd, hSc, hIn, hnd, hge, hbz⟩ := C1
  have gcc := (hge cc (List.mem_cons_self ..)).1
  have hRd0 := hRd
  have hSc0 := hSc
  have hIn0 := hIn
  obtain ⟨⟨d1, d2, d3⟩, dA, dB, dC, nA, nB, nC⟩ := own_dis hnd
  refine own_via (fun _ => XS.iloadN X0.here hx rfl (hb hby d4_0) rfl) ?_
  show own_Go p e below _ (s₁.setTop (mkF m 1 #[.val (.ref cc), .val (.int p1), .val (.long q1), .second, .unset, .unset, .unset] [(.int p1)]))
  refine own_via (fun _ => XS.iconst X0.here hx rfl (hb hby d4_1)) ?_
  show own_Go p e below _ (s₁.setTop (mkF m 2 #[.val (.ref cc), .val (.int p1), .val (.long q1), .second, .unset, .unset, .unset] [(.int (3 : Int32)), (.int p1)]))
  refine own_via (fun _ => XS.iand X0.here hx rfl (hb hby d4_2) rfl) ?_
  show own_Go p e below _ (s₁.setTop (mkF m 3 #[.val (.ref cc), .val (.int p1), .val (.long q1), .second, .unset, .unset, .unset] [(.int (p1 &&& (3 : Int32)))]))
  refine own_via (fun _ => XS.istore X0.here hx rfl (hb hby d4_3) rfl (l' := #[.val (.ref cc), .val (.int p1), .val (.long q1), .second, .val (.int (p1 &&& (3 : Int32))), .unset, .unset]) rfl) ?_
  show own_Go p e below _ (s₁.setTop (mkF m 5 #[.val (.ref cc), .val (.int p1), .val (.long q1), .second, .val (.int (p1 &&& (3 : Int32))), .unset, .unset] []))
  refine own_via (fun _ => XS.iloadN X0.here hx rfl (hb hby d4_5) rfl) ?_
  show own_Go p e below _ (s₁.setTop (mkF m 6 #[.val (.ref cc), .val (.int p1), .val (.long q1), .second, .val (.int (p1 &&& (3 : Int32))), .unset, .unset] [(.int p1)]))
  refine own_via (fun _ => XS.iconst X0.here hx rfl (hb hby d4_6)) ?_
  show own_Go p e below _ (s₁.setTop (mkF m 7 #[.val (.ref cc), .val (.int p1), .val (.long q1), .second, .val (.int (p1 &&& (3 : Int32))), .unset, .unset] [(.int (2 : Int32)), (.int p1)]))
  refine own_via (fun _ => XS.iushr X0.here hx rfl (hb hby d4_7) rfl) ?_
  show own_Go p e below _ (s₁.setTop (mkF m 8 #[.val (.ref cc), .val (.int p1), .val (.long q1), .second, .val (.int (p1 &&& (3 : Int32))), .unset, .unset] [(.int ((p1.toUInt32 >>> ((2 : Int32) &&& 31).toUInt32).toInt32))]))
  refine own_via (fun _ => XS.iconst X0.here hx rfl (hb hby d4_8)) ?_
  show own_Go p e below _ (s₁.setTop (mkF m 9 #[.val (.ref cc), .val (.int p1), .val (.long q1), .second, .val (.int (p1 &&& (3 : Int32))), .unset, .unset] [(.int (5 : Int32)), (.int ((p1.toUInt32 >>> ((2 : Int32) &&& 31).toUInt32).toInt32))]))
  refine own_via (fun _ => iremM (g := (mkF m 9 #[.val (.ref cc), .val (.int p1), .val (.long q1), .second, .val (.int (p1 &&& (3 : Int32))), .unset, .unset] [(.int (5 : Int32)), (.int ((p1.toUInt32 >>> ((2 : Int32) &&& 31).toUInt32).toInt32))])) X0 hx rfl (hb hby d4_9) rfl (by decide)) ?_
  show own_Go p e below _ (s₁.setTop (mkF m 10 #[.val (.ref cc), .val (.int p1), .val (.long q1), .second, .val (.int (p1 &&& (3 : Int32))), .unset, .unset] [(.int (((p1.toUInt32 >>> ((2 : Int32) &&& 31).toUInt32).toInt32) % (5 : Int32)))]))
  refine own_via (fun _ => XS.istore X0.here hx rfl (hb hby d4_10) rfl (l' := #[.val (.ref cc), .val (.int p1), .val (.long q1), .second, .val (.int (p1 &&& (3 : Int32))), .val (.int (((p1.toUInt32 >>> ((2 : Int32) &&& 31).toUInt32).toInt32) % (5 : Int32))), .unset]) rfl) ?_
  show own_Go p e below _ (s₁.setTop (mkF m 12 #[.val (.ref cc), .val (.int p1), .val (.long q1), .second, .val (.int (p1 &&& (3 : Int32))), .val (.int (((p1.toUInt32 >>> ((2 : Int32) &&& 31).toUInt32).toInt32) % (5 : Int32))), .unset] []))
  refine own_via (fun _ => XS.iload X0.here hx rfl (hb hby d4_12) rfl) ?_
  show own_Go p e below _ (s₁.setTop (mkF m 14 #[.val (.ref cc), .val (.int p1), .val (.long q1), .second, .val (.int (p1 &&& (3 : Int32))), .val (.int (((p1.toUInt32 >>> ((2 : Int32) &&& 31).toUInt32).toInt32) % (5 : Int32))), .unset] [(.int (((p1.toUInt32 >>> ((2 : Int32) &&& 31).toUInt32).toInt32) % (5 : Int32)))]))
  obtain ⟨pp, epp⟩ : ∃ z : Int32, z = (((p1.toUInt32 >>> ((2 : Int32) &&& 31).toUInt32).toInt32) % (5 : Int32)) := ⟨_, rfl⟩
  have hp := own_lev p1
  rw [← epp] at hp ⊢
  show own_Go p e below _ (s₁.setTop (mkF m 14 #[.val (.ref cc), .val (.int p1), .val (.long q1), .second, .val (.int (p1 &&& (3 : Int32))), .val (.int pp), .unset] [(.int pp)]))
  obtain ⟨_, _, ⟨T_1, L_1, k_1, n_1⟩, -, X_1, ⟨Lc_1, hQ_1, l_1, y_1, z_1⟩, st_1⟩ := Jvm.LawKit.callS X0 hx (y := (⟨"com/example/optimistik/optimistik/engine/CommitChecksIsEmptyPinLaw", "level", "(I)Lcom/example/optimistik/optimistik/model/IsolationLevel;"⟩ : MethodName)) hown (mvT hZ (own_w hw 24 rfl)) (mvT hZ (own_w hw 25 rfl)) (mvT hZ (own_w hw 22 rfl)) (mvT hZ (own_w hw 26 rfl)) (by decide) (backOf (W := 0) (rmlevel l Z a0 hw [] pp u0 u1 u2 u3 u4 h0 n0 Z0 O0 Su0 Su1 Su2 Su3 Su4 n03 n13 n23 n04 n14 n24 n34 hp) hZ (own_w hw 26 rfl) (own_w hw 22 rfl) (by decide) (by decide)) (g := (mkF m 14 #[.val (.ref cc), .val (.int p1), .val (.long q1), .second, .val (.int (p1 &&& (3 : Int32))), .val (.int pp), .unset] [(.int pp)])) rfl (by rw [hml]; rfl) (argsL := [(.int pp)]) (rest := []) (lenOf pd_12 rfl) rfl (by show 2 * 0 + _ ≤ _; exact Nat.le_of_eq rfl) (hb hby d4_14) (fun _ _ => ⟨rfl, e0, (by decide : 0 + 0 ≤ _), (by decide : 0 + 0 ≤ _)⟩)
  dsimp only [Pt.U, Pt.locs, Pt.cells, Pt.slots] at X_1 l_1 y_1 z_1 st_1 hQ_1
  subst l_1 y_1 z_1
  obtain ⟨r_2, rfl, Nq_1, e_1, q_1_0⟩ := hQ_1
  have N_1 := Fr.app N0 Nq_1
  refine own_via st_1 ?_
  show own_Go p e below _ (T_1.setTop (mkF m 17 #[.val (.ref cc), .val (.int p1), .val (.long q1), .second, .val (.int (p1 &&& (3 : Int32))), .val (.int pp), .unset] [(.ref r_2)]))
  refine own_via (fun _ => XS.astore X_1.here hx rfl (hb hby d4_17) rfl rfl (l' := #[.val (.ref cc), .val (.int p1), .val (.long q1), .second, .val (.int (p1 &&& (3 : Int32))), .val (.int pp), .val (.ref r_2)]) rfl) ?_
  show own_Go p e below _ (T_1.setTop (mkF m 19 #[.val (.ref cc), .val (.int p1), .val (.long q1), .second, .val (.int (p1 &&& (3 : Int32))), .val (.int pp), .val (.ref r_2)] []))
  refine own_via (fun _ => XS.iload X_1.here hx rfl (hb hby d4_19) rfl) ?_
  show own_Go p e below _ (T_1.setTop (mkF m 21 #[.val (.ref cc), .val (.int p1), .val (.long q1), .second, .val (.int (p1 &&& (3 : Int32))), .val (.int pp), .val (.ref r_2)] [(.int (p1 &&& (3 : Int32)))]))
  refine own_via (fun _ => XS.iconst X_1.here hx rfl (hb hby d4_21)) ?_
  show own_Go p e below _ (T_1.setTop (mkF m 22 #[.val (.ref cc), .val (.int p1), .val (.long q1), .second, .val (.int (p1 &&& (3 : Int32))), .val (.int pp), .val (.ref r_2)] [(.int (1 : Int32)), (.int (p1 &&& (3 : Int32)))]))
  by_cases ha1 : (p1 &&& (3 : Int32)) = (1 : Int32)
  · refine own_via (fun _ => XS.icmpNo X_1.here hx rfl (hb hby d4_22) rfl (teq (ha1 : (p1 &&& (3 : Int32)) = (1 : Int32))).2) ?_
    show own_Go p e below _ (T_1.setTop (mkF m 25 #[.val (.ref cc), .val (.int p1), .val (.long q1), .second, .val (.int (p1 &&& (3 : Int32))), .val (.int pp), .val (.ref r_2)] []))
    refine own_via (fun _ => XS.aloadN X_1.here hx rfl (hb hby d4_25) rfl rfl) ?_
    show own_Go p e below _ (T_1.setTop (mkF m 26 #[.val (.ref cc), .val (.int p1), .val (.long q1), .second, .val (.int (p1 &&& (3 : Int32))), .val (.int pp), .val (.ref r_2)] [(.ref cc)]))
    refine own_via (fun _ => XS.aconstNull X_1.here hx rfl (hb hby d4_26)) ?_
    show own_Go p e below _ (T_1.setTop (mkF m 27 #[.val (.ref cc), .val (.int p1), .val (.long q1), .second, .val (.int (p1 &&& (3 : Int32))), .val (.int pp), .val (.ref r_2)] [.null, (.ref cc)]))
    refine own_via (fun _ => XS.aload X_1.here hx rfl (hb hby d4_27) rfl rfl) ?_
    show own_Go p e below _ (T_1.setTop (mkF m 29 #[.val (.ref cc), .val (.int p1), .val (.long q1), .second, .val (.int (p1 &&& (3 : Int32))), .val (.int pp), .val (.ref r_2)] [(.ref r_2), .null, (.ref cc)]))
    by_cases hq : pp = 3 ∨ pp = 4
    · have hr := own_lvY q_1_0 hq
      rcases hRd with ⟨rfl, rfl⟩ | ⟨is, ar, k, rfl, rfl, G1, G2, G3, G4, G5⟩
      · obtain ⟨cq_3, kq_3, q_3a, q_3b, q_3c⟩ := isOf hZ e_1 E1
        obtain ⟨_, _, ⟨T_3, L_3, k_3, n_3⟩, -, X_3, ⟨Lc_3, hQ_3, l_3, y_3, z_3⟩, st_3⟩ := X_1.virtualBack hx (y := (⟨"com/example/optimistik/optimistik/engine/CommitChecks", "noteRead", "(Lcom/example/optimistik/optimistik/engine/Version;Lcom/example/optimistik/optimistik/model/IsolationLevel;)V"⟩ : MethodName)) (z := (⟨"com/example/optimistik/optimistik/engine/CommitChecks", "noteRead", "(Lcom/example/optimistik/optimistik/engine/Version;Lcom/example/optimistik/optimistik/model/IsolationLevel;)V"⟩ : MethodName)) hown (mvT hZ (own_w hw 149 rfl)) (mvT hZ (own_w hw 150 rfl)) (notFace_of_selects (args := #[]) (mvT hZ (own_w hw 152 rfl))) (mvT hZ (own_w hw 152 rfl)) (mvT hZ (own_w hw 151 rfl)) (by decide) (backOf (W := 0) (rmreadN l Z a0 hw [] cc r_2 sv iv u0 u1 u2 u3 u4 h0 n0 Z0 O0 Su3 Su4 hr E1 F1 F2 F3 gcc) hZ (own_w hw 153 rfl) (own_w hw 2 rfl) (by decide) (by decide)) q_3a q_3c (g := (mkF m 29 #[.val (.ref cc), .val (.int p1), .val (.long q1), .second, .val (.int (p1 &&& (3 : Int32))), .val (.int pp), .val (.ref r_2)] [(.ref r_2), .null, (.ref cc)])) rfl (by rw [hml]; rfl) (Steps.refl _) (argsL := [.null, (.ref r_2)]) (rest := []) (lenOf pd_13 rfl) rfl (by show 2 * 0 + _ ≤ _; exact Nat.le_of_eq rfl) (hb hby d4_29) (fun _ _ => ⟨rfl, e_1, (by decide : 0 + 2 ≤ _), (by decide : 0 + 6 ≤ _)⟩)
        dsimp only [Pt.U, Pt.locs, Pt.cells, Pt.slots] at X_3 l_3 y_3 z_3 st_3 hQ_3
        subst l_3 y_3 z_3
        obtain ⟨r_4, r_5, u_6, rfl, Nq_3, K_3q, q_3_0, q_3_1, q_3_2, q_3_3, q_3_4, q_3_5, q_3_6, q_3_7, q_3_8, q_3_9, q_3_10⟩ := hQ_3
        have N_3 := Fr.app N_1 Nq_3
        refine own_via (fun _ k => st_3.trans k) ?_
        show own_Go p e below _ (T_3.setTop (mkF m 32 #[.val (.ref cc), .val (.int p1), .val (.long q1), .second, .val (.int (p1 &&& (3 : Int32))), .val (.int pp), .val (.ref r_2)] []))
        refine own_via (fun _ => XS.iload X_3.here hx rfl (hb hby d4_32) rfl) ?_
        show own_Go p e below _ (T_3.setTop (mkF m 34 #[.val (.ref cc), .val (.int p1), .val (.long q1), .second, .val (.int (p1 &&& (3 : Int32))), .val (.int pp), .val (.ref r_2)] [(.int pp)]))
        refine own_via (fun _ => XS.iconst X_3.here hx rfl (hb hby d4_34)) ?_
        show own_Go p e below _ (T_3.setTop (mkF m 35 #[.val (.ref cc), .val (.int p1), .val (.long q1), .second, .val (.int (p1 &&& (3 : Int32))), .val (.int pp), .val (.ref r_2)] [(.int (3 : Int32)), (.int pp)]))
        obtain ⟨zz, ezz⟩ : ∃ z : Int32, z = (if pp = (3 : Int32) then (1 : Int32) else (if pp = (4 : Int32) then (1 : Int32) else (0 : Int32))) := ⟨_, rfl⟩
        refine own_seq (B := T_3.setTop (mkF m 49 #[.val (.ref cc), .val (.int p1), .val (.long q1), .second, .val (.int (p1 &&& (3 : Int32))), .val (.int pp), .val (.ref r_2)] [(.int zz)])) (fun kz => ?_) ?_
        · by_cases hv_7 : pp = (3 : Int32)
          · refine own_via (fun _ => XS.icmpYes X_3.here hx rfl (pc0 := 35) (pc' := 44) rfl (hb hby d4_35) rfl (teq (hv_7 : pp = (3 : Int32))).1 (by decide) (by decide)) ?_
            show own_Go p e below _ (T_3.setTop (mkF m 44 #[.val (.ref cc), .val (.int p1), .val (.long q1), .second, .val (.int (p1 &&& (3 : Int32))), .val (.int pp), .val (.ref r_2)] []))
            refine own_via (fun _ => XS.iconst X_3.here hx rfl (hb hby d4_44)) ?_
            show own_Go p e below _ (T_3.setTop (mkF m 45 #[.val (.ref cc), .val (.int p1), .val (.long q1), .second, .val (.int (p1 &&& (3 : Int32))), .val (.int pp), .val (.ref r_2)] [(.int (1 : Int32))]))
            refine own_via (fun _ => XS.goto X_3.here hx rfl (pc0 := 45) (pc' := 49) rfl (hb hby d4_45) (by decide) (by decide)) ?_
            show own_Go p e below _ (T_3.setTop (mkF m 49 #[.val (.ref cc), .val (.int p1), .val (.long q1), .second, .val (.int (p1 &&& (3 : Int32))), .val (.int pp), .val (.ref r_2)] [(.int (1 : Int32))]))
            rw [if_pos hv_7] at ezz
            subst ezz
            exact kz
          · refine own_via (fun _ => XS.icmpNo X_3.here hx rfl (hb hby d4_35) rfl (feq (hv_7 : ¬ (pp = (3 : Int32)))).1) ?_
            show own_Go p e below _ (T_3.setTop (mkF m 38 #[.val (.ref cc), .val (.int p1), .val (.long q1), .second, .val (.int (p1 &&& (3 : Int32))), .val (.int pp), .val (.ref r_2)] []))
            refine own_via (fun _ => XS.iload X_3.here hx rfl (hb hby d4_38) rfl) ?_
            show own_Go p e below _ (T_3.setTop (mkF m 40 #[.val (.ref cc), .val (.int p1), .val (.long q1), .second, .val (.int (p1 &&& (3 : Int32))), .val (.int pp), .val (.ref r_2)] [(.int pp)]))
            refine own_via (fun _ => XS.iconst X_3.here hx rfl (hb hby d4_40)) ?_
            show own_Go p e below _ (T_3.setTop (mkF m 41 #[.val (.ref cc), .val (.int p1), .val (.long q1), .second, .val (.int (p1 &&& (3 : Int32))), .val (.int pp), .val (.ref r_2)] [(.int (4 : Int32)), (.int pp)]))
            by_cases hv_8 : pp = (4 : Int32)
            · refine own_via (fun _ => XS.icmpNo X_3.here hx rfl (hb hby d4_41) rfl (teq (hv_8 : pp = (4 : Int32))).2) ?_
              show own_Go p e below _ (T_3.setTop (mkF m 44 #[.val (.ref cc), .val (.int p1), .val (.long q1), .second, .val (.int (p1 &&& (3 : Int32))), .val (.int pp), .val (.ref r_2)] []))
              refine own_via (fun _ => XS.iconst X_3.here hx rfl (hb hby d4_44)) ?_
              show own_Go p e below _ (T_3.setTop (mkF m 45 #[.val (.ref cc), .val (.int p1), .val (.long q1), .second, .val (.int (p1 &&& (3 : Int32))), .val (.int pp), .val (.ref r_2)] [(.int (1 : Int32))]))
              refine own_via (fun _ => XS.goto X_3.here hx rfl (pc0 := 45) (pc' := 49) rfl (hb hby d4_45) (by decide) (by decide)) ?_
              show own_Go p e below _ (T_3.setTop (mkF m 49 #[.val (.ref cc), .val (.int p1), .val (.long q1), .second, .val (.int (p1 &&& (3 : Int32))), .val (.int pp), .val (.ref r_2)] [(.int (1 : Int32))]))
              rw [if_neg hv_7] at ezz
              rw [if_pos hv_8] at ezz
              subst ezz
              exact kz
            · refine own_via (fun _ => XS.icmpYes X_3.here hx rfl (pc0 := 41) (pc' := 48) rfl (hb hby d4_41) rfl (feq (hv_8 : ¬ (pp = (4 : Int32)))).2 (by decide) (by decide)) ?_
              show own_Go p e below _ (T_3.setTop (mkF m 48 #[.val (.ref cc), .val (.int p1), .val (.long q1), .second, .val (.int (p1 &&& (3 : Int32))), .val (.int pp), .val (.ref r_2)] []))
              refine own_via (fun _ => XS.iconst X_3.here hx rfl (hb hby d4_48)) ?_
              show own_Go p e below _ (T_3.setTop (mkF m 49 #[.val (.ref cc), .val (.int p1), .val (.long q1), .second, .val (.int (p1 &&& (3 : Int32))), .val (.int pp), .val (.ref r_2)] [(.int (0 : Int32))]))
              rw [if_neg hv_7] at ezz
              rw [if_neg hv_8] at ezz
              subst ezz
              exact kz
        show own_Go p e below _ (T_3.setTop (mkF m 49 #[.val (.ref cc), .val (.int p1), .val (.long q1), .second, .val (.int (p1 &&& (3 : Int32))), .val (.int pp), .val (.ref r_2)] [(.int zz)]))
        obtain rfl : zz = (1 : Int32) := by rw [ezz]; first | (rcases hq with q | q <;> simp [q]; done) | simp [hq]
        show own_Go p e below _ (T_3.setTop (mkF m 49 #[.val (.ref cc), .val (.int p1), .val (.long q1), .second, .val (.int (p1 &&& (3 : Int32))), .val (.int pp), .val (.ref r_2)] [(.int (1 : Int32))]))
        have K_9 : Keep h0 T_3.heap [cc] := Keep.trans (ws := [cc]) (own_keep_mono (Keep.refl h0 []) (by simp)) K_3q (allS (Or.inl (List.mem_of_getElem? (i := 0) rfl)) all0)
        have nd_10 := own_nd (List.Perm.refl _) hnd hge K_9.1 Z0 q_3_0 q_3_3.lt q_3_1 q_3_4.lt q_3_2
        exact own_retv X_3 Bd.notSynchronized hx Bd.returns rfl (Or.inl ⟨rfl, (by simp), _, rfl⟩) (hb hby d4_49) (by decide) (by decide) ⟨(1 : Int32), rfl, N_3, K_9.1, (O0.keep K_9 (allS gcc all0)), (Or.inr rfl), (by rw [if_neg (by decide)]; exact ⟨(.ref r_4), sv, iv, [r_4, r_5], Ls, Li, (E1.keep K_9), q_3_8, q_3_9, q_3_10, (Or.inr ⟨r_4, r_5, u_6, rfl, rfl, q_3_3, q_3_5, q_3_6, q_3_7, q_3_4⟩), (hSc.keep K_9 (own_d1 d2)), (hIn.keep K_9 (own_d1 d3)), nd_10.1, nd_10.2, by simp⟩)⟩
      · obtain ⟨cq_11, kq_11, q_11a, q_11b, q_11c⟩ := isOf hZ e_1 E1
        obtain ⟨_, _, ⟨T_11, L_11, k_11, n_11⟩, -, X_11, ⟨Lc_11, hQ_11, l_11, y_11, z_11⟩, st_11⟩ := X_1.virtualBack hx (y := (⟨"com/example/optimistik/optimistik/engine/CommitChecks", "noteRead", "(Lcom/example/optimistik/optimistik/engine/Version;Lcom/example/optimistik/optimistik/model/IsolationLevel;)V"⟩ : MethodName)) (z := (⟨"com/example/optimistik/optimistik/engine/CommitChecks", "noteRead", "(Lcom/example/optimistik/optimistik/engine/Version;Lcom/example/optimistik/optimistik/model/IsolationLevel;)V"⟩ : MethodName)) hown (mvT hZ (own_w hw 149 rfl)) (mvT hZ (own_w hw 150 rfl)) (notFace_of_selects (args := #[]) (mvT hZ (own_w hw 152 rfl))) (mvT hZ (own_w hw 152 rfl)) (mvT hZ (own_w hw 151 rfl)) (by decide) (backOf (W := 0) (rmreadO l Z a0 hw [] cc r_2 is ar k u0 u1 u2 u3 u4 h0 n0 Z0 O0 Su3 Su4 hr F1 G1 G2 G3 G4 G5) hZ (own_w hw 153 rfl) (own_w hw 2 rfl) (by decide) (by decide)) q_11a q_11c (g := (mkF m 29 #[.val (.ref cc), .val (.int p1), .val (.long q1), .second, .val (.int (p1 &&& (3 : Int32))), .val (.int pp), .val (.ref r_2)] [(.ref r_2), .null, (.ref cc)])) rfl (by rw [hml]; rfl) (Steps.refl _) (argsL := [.null, (.ref r_2)]) (rest := []) (lenOf pd_13 rfl) rfl (by show 2 * 0 + _ ≤ _; exact Nat.le_of_eq rfl) (hb hby d4_29) (fun _ _ => ⟨rfl, e_1, (by decide : 0 + 0 ≤ _), (by decide : 0 + 0 ≤ _)⟩)
        dsimp only [Pt.U, Pt.locs, Pt.cells, Pt.slots] at X_11 l_11 y_11 z_11 st_11 hQ_11
        subst l_11 y_11 z_11
        obtain ⟨rfl, Nq_11, e_11⟩ := hQ_11
        have N_11 := Fr.app N_1 Nq_11
        refine own_via (fun _ k => st_11.trans k) ?_
        show own_Go p e below _ (T_11.setTop (mkF m 32 #[.val (.ref cc), .val (.int p1), .val (.long q1), .second, .val (.int (p1 &&& (3 : Int32))), .val (.int pp), .val (.ref r_2)] []))
        refine own_via (fun _ => XS.iload X_11.here hx rfl (hb hby d4_32) rfl) ?_
        show own_Go p e below _ (T_11.setTop (mkF m 34 #[.val (.ref cc), .val (.int p1), .val (.long q1), .second, .val (.int (p1 &&& (3 : Int32))), .val (.int pp), .val (.ref r_2)] [(.int pp)]))
        refine own_via (fun _ => XS.iconst X_11.here hx rfl (hb hby d4_34)) ?_
        show own_Go p e below _ (T_11.setTop (mkF m 35 #[.val (.ref cc), .val (.int p1), .val (.long q1), .second, .val (.int (p1 &&& (3 : Int32))), .val (.int pp), .val (.ref r_2)] [(.int (3 : Int32)), (.int pp)]))
        obtain ⟨zz, ezz⟩ : ∃ z : Int32, z = (if pp = (3 : Int32) then (1 : Int32) else (if pp = (4 : Int32) then (1 : Int32) else (0 : Int32))) := ⟨_, rfl⟩
        refine own_seq (B := T_11.setTop (mkF m 49 #[.val (.ref cc), .val (.int p1), .val (.long q1), .second, .val (.int (p1 &&& (3 : Int32))), .val (.int pp), .val (.ref r_2)] [(.int zz)])) (fun kz => ?_) ?_
        · by_cases hv_12 : pp = (3 : Int32)
          · refine own_via (fun _ => XS.icmpYes X_11.here hx rfl (pc0 := 35) (pc' := 44) rfl (hb hby d4_35) rfl (teq (hv_12 : pp = (3 : Int32))).1 (by decide) (by decide)) ?_
            show own_Go p e below _ (T_11.setTop (mkF m 44 #[.val (.ref cc), .val (.int p1), .val (.long q1), .second, .val (.int (p1 &&& (3 : Int32))), .val (.int pp), .val (.ref r_2)] []))
            refine own_via (fun _ => XS.iconst X_11.here hx rfl (hb hby d4_44)) ?_
            show own_Go p e below _ (T_11.setTop (mkF m 45 #[.val (.ref cc), .val (.int p1), .val (.long q1), .second, .val (.int (p1 &&& (3 : Int32))), .val (.int pp), .val (.ref r_2)] [(.int (1 : Int32))]))
            refine own_via (fun _ => XS.goto X_11.here hx rfl (pc0 := 45) (pc' := 49) rfl (hb hby d4_45) (by decide) (by decide)) ?_
            show own_Go p e below _ (T_11.setTop (mkF m 49 #[.val (.ref cc), .val (.int p1), .val (.long q1), .second, .val (.int (p1 &&& (3 : Int32))), .val (.int pp), .val (.ref r_2)] [(.int (1 : Int32))]))
            rw [if_pos hv_12] at ezz
            subst ezz
            exact kz
          · refine own_via (fun _ => XS.icmpNo X_11.here hx rfl (hb hby d4_35) rfl (feq (hv_12 : ¬ (pp = (3 : Int32)))).1) ?_
            show own_Go p e below _ (T_11.setTop (mkF m 38 #[.val (.ref cc), .val (.int p1), .val (.long q1), .second, .val (.int (p1 &&& (3 : Int32))), .val (.int pp), .val (.ref r_2)] []))
            refine own_via (fun _ => XS.iload X_11.here hx rfl (hb hby d4_38) rfl) ?_
            show own_Go p e below _ (T_11.setTop (mkF m 40 #[.val (.ref cc), .val (.int p1), .val (.long q1), .second, .val (.int (p1 &&& (3 : Int32))), .val (.int pp), .val (.ref r_2)] [(.int pp)]))
            refine own_via (fun _ => XS.iconst X_11.here hx rfl (hb hby d4_40)) ?_
            show own_Go p e below _ (T_11.setTop (mkF m 41 #[.val (.ref cc), .val (.int p1), .val (.long q1), .second, .val (.int (p1 &&& (3 : Int32))), .val (.int pp), .val (.ref r_2)] [(.int (4 : Int32)), (.int pp)]))
            by_cases hv_13 : pp = (4 : Int32)
            · refine own_via (fun _ => XS.icmpNo X_11.here hx rfl (hb hby d4_41) rfl (teq (hv_13 : pp = (4 : Int32))).2) ?_
              show own_Go p e below _ (T_11.setTop (mkF m 44 #[.val (.ref cc), .val (.int p1), .val (.long q1), .second, .val (.int (p1 &&& (3 : Int32))), .val (.int pp), .val (.ref r_2)] []))
              refine own_via (fun _ => XS.iconst X_11.here hx rfl (hb hby d4_44)) ?_
              show own_Go p e below _ (T_11.setTop (mkF m 45 #[.val (.ref cc), .val (.int p1), .val (.long q1), .second, .val (.int (p1 &&& (3 : Int32))), .val (.int pp), .val (.ref r_2)] [(.int (1 : Int32))]))
              refine own_via (fun _ => XS.goto X_11.here hx rfl (pc0 := 45) (pc' := 49) rfl (hb hby d4_45) (by decide) (by decide)) ?_
              show own_Go p e below _ (T_11.setTop (mkF m 49 #[.val (.ref cc), .val (.int p1), .val (.long q1), .second, .val (.int (p1 &&& (3 : Int32))), .val (.int pp), .val (.ref r_2)] [(.int (1 : Int32))]))
              rw [if_neg hv_12] at ezz
              rw [if_pos hv_13] at ezz
              subst ezz
              exact kz
            · refine own_via (fun _ => XS.icmpYes X_11.here hx rfl (pc0 := 41) (pc' := 48) rfl (hb hby d4_41) rfl (feq (hv_13 : ¬ (pp = (4 : Int32)))).2 (by decide) (by decide)) ?_
              show own_Go p e below _ (T_11.setTop (mkF m 48 #[.val (.ref cc), .val (.int p1), .val (.long q1), .second, .val (.int (p1 &&& (3 : Int32))), .val (.int pp), .val (.ref r_2)] []))
              refine own_via (fun _ => XS.iconst X_11.here hx rfl (hb hby d4_48)) ?_
              show own_Go p e below _ (T_11.setTop (mkF m 49 #[.val (.ref cc), .val (.int p1), .val (.long q1), .second, .val (.int (p1 &&& (3 : Int32))), .val (.int pp), .val (.ref r_2)] [(.int (0 : Int32))]))
              rw [if_neg hv_12] at ezz
              rw [if_neg hv_13] at ezz
              subst ezz
              exact kz
        show own_Go p e below _ (T_11.setTop (mkF m 49 #[.val (.ref cc), .val (.int p1), .val (.long q1), .second, .val (.int (p1 &&& (3 : Int32))), .val (.int pp), .val (.ref r_2)] [(.int zz)]))
        obtain rfl : zz = (1 : Int32) := by rw [ezz]; first | (rcases hq with q | q <;> simp [q]; done) | simp [hq]
        show own_Go p e below _ (T_11.setTop (mkF m 49 #[.val (.ref cc), .val (.int p1), .val (.long q1), .second, .val (.int (p1 &&& (3 : Int32))), .val (.int pp), .val (.ref r_2)] [(.int (1 : Int32))]))
        exact own_retv X_11 Bd.notSynchronized hx Bd.returns rfl (Or.inl ⟨rfl, (by simp), _, rfl⟩) (hb hby d4_49) (by decide) (by decide) (by rw [e_11]; exact ⟨(1 : Int32), rfl, N_11, (Nat.le_refl _), O0, (Or.inr rfl), (by rw [if_neg (by decide)]; exact ⟨(.ref is), sv, iv, [is, ar], Ls, Li, E1, F1, F2, F3, hRd0, hSc.up, hIn.up, hnd, hge, by simp⟩)⟩)
    · have hr := own_lvN n34 q_1_0 hq
      obtain ⟨cq_14, kq_14, q_14a, q_14b, q_14c⟩ := isOf hZ e_1 E1
      obtain ⟨_, _, ⟨T_14, L_14, k_14, n_14⟩, -, X_14, ⟨Lc_14, hQ_14, l_14, y_14, z_14⟩, st_14⟩ := X_1.virtualBack hx (y := (⟨"com/example/optimistik/optimistik/engine/CommitChecks", "noteRead", "(Lcom/example/optimistik/optimistik/engine/Version;Lcom/example/optimistik/optimistik/model/IsolationLevel;)V"⟩ : MethodName)) (z := (⟨"com/example/optimistik/optimistik/engine/CommitChecks", "noteRead", "(Lcom/example/optimistik/optimistik/engine/Version;Lcom/example/optimistik/optimistik/model/IsolationLevel;)V"⟩ : MethodName)) hown (mvT hZ (own_w hw 149 rfl)) (mvT hZ (own_w hw 150 rfl)) (notFace_of_selects (args := #[]) (mvT hZ (own_w hw 152 rfl))) (mvT hZ (own_w hw 152 rfl)) (mvT hZ (own_w hw 151 rfl)) (by decide) (backOf (W := 0) (rmreadNo l Z a0 hw [] cc r_2 u0 u1 u2 u3 u4 h0 n0 Z0 O0 Su3 Su4 hr.1 hr.2) hZ (own_w hw 153 rfl) (own_w hw 2 rfl) (by decide) (by decide)) q_14a q_14c (g := (mkF m 29 #[.val (.ref cc), .val (.int p1), .val (.long q1), .second, .val (.int (p1 &&& (3 : Int32))), .val (.int pp), .val (.ref r_2)] [(.ref r_2), .null, (.ref cc)])) rfl (by rw [hml]; rfl) (Steps.refl _) (argsL := [.null, (.ref r_2)]) (rest := []) (lenOf pd_13 rfl) rfl (by show 2 * 0 + _ ≤ _; exact Nat.le_of_eq rfl) (hb hby d4_29) (fun _ _ => ⟨rfl, e_1, (by decide : 0 + 0 ≤ _), (by decide : 0 + 0 ≤ _)⟩)
      dsimp only [Pt.U, Pt.locs, Pt.cells, Pt.slots] at X_14 l_14 y_14 z_14 st_14 hQ_14
      subst l_14 y_14 z_14
      obtain ⟨rfl, Nq_14, e_14⟩ := hQ_14
      have N_14 := Fr.app N_1 Nq_14
      refine own_via (fun _ k => st_14.trans k) ?_
      show own_Go p e below _ (T_14.setTop (mkF m 32 #[.val (.ref cc), .val (.int p1), .val (.long q1), .second, .val (.int (p1 &&& (3 : Int32))), .val (.int pp), .val (.ref r_2)] []))
      refine own_via (fun _ => XS.iload X_14.here hx rfl (hb hby d4_32) rfl) ?_
      show own_Go p e below _ (T_14.setTop (mkF m 34 #[.val (.ref cc), .val (.int p1), .val (.long q1), .second, .val (.int (p1 &&& (3 : Int32))), .val (.int pp), .val (.ref r_2)] [(.int pp)]))
      refine own_via (fun _ => XS.iconst X_14.here hx rfl (hb hby d4_34)) ?_
      show own_Go p e below _ (T_14.setTop (mkF m 35 #[.val (.ref cc), .val (.int p1), .val (.long q1), .second, .val (.int (p1 &&& (3 : Int32))), .val (.int pp), .val (.ref r_2)] [(.int (3 : Int32)), (.int pp)]))
      obtain ⟨zz, ezz⟩ : ∃ z : Int32, z = (if pp = (3 : Int32) then (1 : Int32) else (if pp = (4 : Int32) then (1 : Int32) else (0 : Int32))) := ⟨_, rfl⟩
      refine own_seq (B := T_14.setTop (mkF m 49 #[.val (.ref cc), .val (.int p1), .val (.long q1), .second, .val (.int (p1 &&& (3 : Int32))), .val (.int pp), .val (.ref r_2)] [(.int zz)])) (fun kz => ?_) ?_
      · by_cases hv_15 : pp = (3 : Int32)
        · refine own_via (fun _ => XS.icmpYes X_14.here hx rfl (pc0 := 35) (pc' := 44) rfl (hb hby d4_35) rfl (teq (hv_15 : pp = (3 : Int32))).1 (by decide) (by decide)) ?_
          show own_Go p e below _ (T_14.setTop (mkF m 44 #[.val (.ref cc), .val (.int p1), .val (.long q1), .second, .val (.int (p1 &&& (3 : Int32))), .val (.int pp), .val (.ref r_2)] []))
          refine own_via (fun _ => XS.iconst X_14.here hx rfl (hb hby d4_44)) ?_
          show own_Go p e below _ (T_14.setTop (mkF m 45 #[.val (.ref cc), .val (.int p1), .val (.long q1), .second, .val (.int (p1 &&& (3 : Int32))), .val (.int pp), .val (.ref r_2)] [(.int (1 : Int32))]))
          refine own_via (fun _ => XS.goto X_14.here hx rfl (pc0 := 45) (pc' := 49) rfl (hb hby d4_45) (by decide) (by decide)) ?_
          show own_Go p e below _ (T_14.setTop (mkF m 49 #[.val (.ref cc), .val (.int p1), .val (.long q1), .second, .val (.int (p1 &&& (3 : Int32))), .val (.int pp), .val (.ref r_2)] [(.int (1 : Int32))]))
          rw [if_pos hv_15] at ezz
          subst ezz
          exact kz
        · refine own_via (fun _ => XS.icmpNo X_14.here hx rfl (hb hby d4_35) rfl (feq (hv_15 : ¬ (pp = (3 : Int32)))).1) ?_
          show own_Go p e below _ (T_14.setTop (mkF m 38 #[.val (.ref cc), .val (.int p1), .val (.long q1), .second, .val (.int (p1 &&& (3 : Int32))), .val (.int pp), .val (.ref r_2)] []))
          refine own_via (fun _ => XS.iload X_14.here hx rfl (hb hby d4_38) rfl) ?_
          show own_Go p e below _ (T_14.setTop (mkF m 40 #[.val (.ref cc), .val (.int p1), .val (.long q1), .second, .val (.int (p1 &&& (3 : Int32))), .val (.int pp), .val (.ref r_2)] [(.int pp)]))
          refine own_via (fun _ => XS.iconst X_14.here hx rfl (hb hby d4_40)) ?_
          show own_Go p e below _ (T_14.setTop (mkF m 41 #[.val (.ref cc), .val (.int p1), .val (.long q1), .second, .val (.int (p1 &&& (3 : Int32))), .val (.int pp), .val (.ref r_2)] [(.int (4 : Int32)), (.int pp)]))
          by_cases hv_16 : pp = (4 : Int32)
          · refine own_via (fun _ => XS.icmpNo X_14.here hx rfl (hb hby d4_41) rfl (teq (hv_16 : pp = (4 : Int32))).2) ?_
            show own_Go p e below _ (T_14.setTop (mkF m 44 #[.val (.ref cc), .val (.int p1), .val (.long q1), .second, .val (.int (p1 &&& (3 : Int32))), .val (.int pp), .val (.ref r_2)] []))
            refine own_via (fun _ => XS.iconst X_14.here hx rfl (hb hby d4_44)) ?_
            show own_Go p e below _ (T_14.setTop (mkF m 45 #[.val (.ref cc), .val (.int p1), .val (.long q1), .second, .val (.int (p1 &&& (3 : Int32))), .val (.int pp), .val (.ref r_2)] [(.int (1 : Int32))]))
            refine own_via (fun _ => XS.goto X_14.here hx rfl (pc0 := 45) (pc' := 49) rfl (hb hby d4_45) (by decide) (by decide)) ?_
            show own_Go p e below _ (T_14.setTop (mkF m 49 #[.val (.ref cc), .val (.int p1), .val (.long q1), .second, .val (.int (p1 &&& (3 : Int32))), .val (.int pp), .val (.ref r_2)] [(.int (1 : Int32))]))
            rw [if_neg hv_15] at ezz
            rw [if_pos hv_16] at ezz
            subst ezz
            exact kz
          · refine own_via (fun _ => XS.icmpYes X_14.here hx rfl (pc0 := 41) (pc' := 48) rfl (hb hby d4_41) rfl (feq (hv_16 : ¬ (pp = (4 : Int32)))).2 (by decide) (by decide)) ?_
            show own_Go p e below _ (T_14.setTop (mkF m 48 #[.val (.ref cc), .val (.int p1), .val (.long q1), .second, .val (.int (p1 &&& (3 : Int32))), .val (.int pp), .val (.ref r_2)] []))
            refine own_via (fun _ => XS.iconst X_14.here hx rfl (hb hby d4_48)) ?_
            show own_Go p e below _ (T_14.setTop (mkF m 49 #[.val (.ref cc), .val (.int p1), .val (.long q1), .second, .val (.int (p1 &&& (3 : Int32))), .val (.int pp), .val (.ref r_2)] [(.int (0 : Int32))]))
            rw [if_neg hv_15] at ezz
            rw [if_neg hv_16] at ezz
            subst ezz
            exact kz
      show own_Go p e below _ (T_14.setTop (mkF m 49 #[.val (.ref cc), .val (.int p1), .val (.long q1), .second, .val (.int (p1 &&& (3 : Int32))), .val (.int pp), .val (.ref r_2)] [(.int zz)]))
      obtain rfl : zz = (0 : Int32) := by rw [ezz]; first | (simp [hq]; done) | (have q1 : ¬ pp = 3 := fun q => hq (Or.inl q); have q2 : ¬ pp = 4 := fun q => hq (Or.inr q); simp [q1, q2])
      show own_Go p e below _ (T_14.setTop (mkF m 49 #[.val (.ref cc), .val (.int p1), .val (.long q1), .second, .val (.int (p1 &&& (3 : Int32))), .val (.int pp), .val (.ref r_2)] [(.int (0 : Int32))]))
      exact own_retv X_14 Bd.notSynchronized hx Bd.returns rfl (Or.inl ⟨rfl, (by simp), _, rfl⟩) (hb hby d4_49) (by decide) (by decide) (by rw [e_14]; exact ⟨(0 : Int32), rfl, N_14, (Nat.le_refl _), O0, (Or.inl rfl), (by rw [if_pos rfl]; exact C0.up)⟩)
  · refine own_via (fun _ => XS.icmpYes X_1.here hx rfl (pc0 := 22) (pc' := 50) rfl (hb hby d4_22) rfl (feq (ha1 : ¬ ((p1 &&& (3 : Int32)) = (1 : Int32)))).2 (by decide) (by decide)) ?_
    show own_Go p e below _ (T_1.setTop (mkF m 50 #[.val (.ref cc), .val (.int p1), .val (.long q1), .second, .val (.int (p1 &&& (3 : Int32))), .val (.int pp), .val (.ref r_2)] []))
    refine own_via (fun _ => XS.iload X_1.here hx rfl (hb hby d4_50) rfl) ?_
    show own_Go p e below _ (T_1.setTop (mkF m 52 #[.val (.ref cc), .val (.int p1), .val (.long q1), .second, .val (.int (p1 &&& (3 : Int32))), .val (.int pp), .val (.ref r_2)] [(.int (p1 &&& (3 : Int32)))]))
    refine own_via (fun _ => XS.iconst X_1.here hx rfl (hb hby d4_52)) ?_
    show own_Go p e below _ (T_1.setTop (mkF m 53 #[.val (.ref cc), .val (.int p1), .val (.long q1), .second, .val (.int (p1 &&& (3 : Int32))), .val (.int pp), .val (.ref r_2)] [(.int (2 : Int32)), (.int (p1 &&& (3 : Int32)))]))
    by_cases ha2 : (p1 &&& (3 : Int32)) = (2 : Int32)
    · refine own_via (fun _ => XS.icmpNo X_1.here hx rfl (hb hby d4_53) rfl (teq (ha2 : (p1 &&& (3 : Int32)) = (2 : Int32))).2) ?_
      show own_Go p e below _ (T_1.setTop (mkF m 56 #[.val (.ref cc), .val (.int p1), .val (.long q1), .second, .val (.int (p1 &&& (3 : Int32))), .val (.int pp), .val (.ref r_2)] []))
      refine own_via (fun _ => XS.aloadN X_1.here hx rfl (hb hby d4_56) rfl rfl) ?_
      show own_Go p e below _ (T_1.setTop (mkF m 57 #[.val (.ref cc), .val (.int p1), .val (.long q1), .second, .val (.int (p1 &&& (3 : Int32))), .val (.int pp), .val (.ref r_2)] [(.ref cc)]))
      refine own_via (fun _ => XS.aconstNull X_1.here hx rfl (hb hby d4_57)) ?_
      show own_Go p e below _ (T_1.setTop (mkF m 58 #[.val (.ref cc), .val (.int p1), .val (.long q1), .second, .val (.int (p1 &&& (3 : Int32))), .val (.int pp), .val (.ref r_2)] [.null, (.ref cc)]))
      refine own_via (fun _ => XS.aconstNull X_1.here hx rfl (hb hby d4_58)) ?_
      show own_Go p e below _ (T_1.setTop (mkF m 59 #[.val (.ref cc), .val (.int p1), .val (.long q1), .second, .val (.int (p1 &&& (3 : Int32))), .val (.int pp), .val (.ref r_2)] [.null, .null, (.ref cc)]))
      refine own_via (fun _ => XS.aconstNull X_1.here hx rfl (hb hby d4_59)) ?_
      show own_Go p e below _ (T_1.setTop (mkF m 60 #[.val (.ref cc), .val (.int p1), .val (.long q1), .second, .val (.int (p1 &&& (3 : Int32))), .val (.int pp), .val (.ref r_2)] [.null, .null, .null, (.ref cc)]))
      refine own_via (fun _ => XS.aload X_1.here hx rfl (hb hby d4_60) rfl rfl) ?_
      show own_Go p e below _ (T_1.setTop (mkF m 62 #[.val (.ref cc), .val (.int p1), .val (.long q1), .second, .val (.int (p1 &&& (3 : Int32))), .val (.int pp), .val (.ref r_2)] [(.ref r_2), .null, .null, .null, (.ref cc)]))
      by_cases hq : pp = 4
      · have h4 := own_lv4Y q_1_0 hq
        rcases hSc with ⟨rfl, rfl⟩ | ⟨li, ar, k, vs, n, mm, hn, rfl, rfl, G1, G2, G3, G4, G5, G6, G7⟩
        · obtain ⟨cq_17, kq_17, q_17a, q_17b, q_17c⟩ := isOf hZ e_1 E1
          obtain ⟨_, _, ⟨T_17, L_17, k_17, n_17⟩, -, X_17, ⟨Lc_17, hQ_17, l_17, y_17, z_17⟩, st_17⟩ := X_1.virtualBack hx (y := (⟨"com/example/optimistik/optimistik/engine/CommitChecks", "noteScan", "(Lcom/example/optimistik/optimistik/engine/EngineTable;Lcom/example/optimistik/optimistik/model/KeyRange;Ljava/util/function/Predicate;Lcom/example/optimistik/optimistik/model/IsolationLevel;)V"⟩ : MethodName)) (z := (⟨"com/example/optimistik/optimistik/engine/CommitChecks", "noteScan", "(Lcom/example/optimistik/optimistik/engine/EngineTable;Lcom/example/optimistik/optimistik/model/KeyRange;Ljava/util/function/Predicate;Lcom/example/optimistik/optimistik/model/IsolationLevel;)V"⟩ : MethodName)) hown (mvT hZ (own_w hw 130 rfl)) (mvT hZ (own_w hw 131 rfl)) (notFace_of_selects (args := #[]) (mvT hZ (own_w hw 133 rfl))) (mvT hZ (own_w hw 133 rfl)) (mvT hZ (own_w hw 132 rfl)) (by decide) (backOf (W := 0) (rmscanN l Z a0 hw [] cc r_2 rv iv u0 u1 u2 u3 u4 dc kd h0 n0 Z0 O0 Su4 h4 E1 F1 gcc F2 F3 Sdc Adc) hZ (own_w hw 134 rfl) (own_w hw 2 rfl) (by decide) (by decide)) q_17a q_17c (g := (mkF m 62 #[.val (.ref cc), .val (.int p1), .val (.long q1), .second, .val (.int (p1 &&& (3 : Int32))), .val (.int pp), .val (.ref r_2)] [(.ref r_2), .null, .null, .null, (.ref cc)])) rfl (by rw [hml]; rfl) (Steps.refl _) (argsL := [.null, .null, .null, (.ref r_2)]) (rest := []) (lenOf pd_14 rfl) rfl (by show 2 * 0 + _ ≤ _; exact Nat.le_of_eq rfl) (hb hby d4_62) (fun _ _ => ⟨rfl, e_1, (by decide : 0 + 3 ≤ _), (by decide : 0 + 16 ≤ _)⟩)
          dsimp only [Pt.U, Pt.locs, Pt.cells, Pt.slots] at X_17 l_17 y_17 z_17 st_17 hQ_17
          subst l_17 y_17 z_17
          obtain ⟨r_18, r_19, u_20, u_21, rfl, Nq_17, K_17q, q_17_0, q_17_1, q_17_2, q_17_3, q_17_4, q_17_5, q_17_6, q_17_7, q_17_8, q_17_9, q_17_10, q_17_11, q_17_12⟩ := hQ_17
          have N_17 := Fr.app N_1 Nq_17
          refine own_via (fun _ k => st_17.trans k) ?_
          show own_Go p e below _ (T_17.setTop (mkF m 65 #[.val (.ref cc), .val (.int p1), .val (.long q1), .second, .val (.int (p1 &&& (3 : Int32))), .val (.int pp), .val (.ref r_2)] []))
          refine own_via (fun _ => XS.iload X_17.here hx rfl (hb hby d4_65) rfl) ?_
          show own_Go p e below _ (T_17.setTop (mkF m 67 #[.val (.ref cc), .val (.int p1), .val (.long q1), .second, .val (.int (p1 &&& (3 : Int32))), .val (.int pp), .val (.ref r_2)] [(.int pp)]))
          refine own_via (fun _ => XS.iconst X_17.here hx rfl (hb hby d4_67)) ?_
          show own_Go p e below _ (T_17.setTop (mkF m 68 #[.val (.ref cc), .val (.int p1), .val (.long q1), .second, .val (.int (p1 &&& (3 : Int32))), .val (.int pp), .val (.ref r_2)] [(.int (4 : Int32)), (.int pp)]))
          obtain ⟨zz, ezz⟩ : ∃ z : Int32, z = (if pp = (4 : Int32) then (1 : Int32) else (0 : Int32)) := ⟨_, rfl⟩
          refine own_seq (B := T_17.setTop (mkF m 76 #[.val (.ref cc), .val (.int p1), .val (.long q1), .second, .val (.int (p1 &&& (3 : Int32))), .val (.int pp), .val (.ref r_2)] [(.int zz)])) (fun kz => ?_) ?_
          · by_cases hv_22 : pp = (4 : Int32)
            · refine own_via (fun _ => XS.icmpNo X_17.here hx rfl (hb hby d4_68) rfl (teq (hv_22 : pp = (4 : Int32))).2) ?_
              show own_Go p e below _ (T_17.setTop (mkF m 71 #[.val (.ref cc), .val (.int p1), .val (.long q1), .second, .val (.int (p1 &&& (3 : Int32))), .val (.int pp), .val (.ref r_2)] []))
              refine own_via (fun _ => XS.iconst X_17.here hx rfl (hb hby d4_71)) ?_
              show own_Go p e below _ (T_17.setTop (mkF m 72 #[.val (.ref cc), .val (.int p1), .val (.long q1), .second, .val (.int (p1 &&& (3 : Int32))), .val (.int pp), .val (.ref r_2)] [(.int (1 : Int32))]))
              refine own_via (fun _ => XS.goto X_17.here hx rfl (pc0 := 72) (pc' := 76) rfl (hb hby d4_72) (by decide) (by decide)) ?_
              show own_Go p e below _ (T_17.setTop (mkF m 76 #[.val (.ref cc), .val (.int p1), .val (.long q1), .second, .val (.int (p1 &&& (3 : Int32))), .val (.int pp), .val (.ref r_2)] [(.int (1 : Int32))]))
              rw [if_pos hv_22] at ezz
              subst ezz
              exact kz
            · refine own_via (fun _ => XS.icmpYes X_17.here hx rfl (pc0 := 68) (pc' := 75) rfl (hb hby d4_68) rfl (feq (hv_22 : ¬ (pp = (4 : Int32)))).2 (by decide) (by decide)) ?_
              show own_Go p e below _ (T_17.setTop (mkF m 75 #[.val (.ref cc), .val (.int p1), .val (.long q1), .second, .val (.int (p1 &&& (3 : Int32))), .val (.int pp), .val (.ref r_2)] []))
              refine own_via (fun _ => XS.iconst X_17.here hx rfl (hb hby d4_75)) ?_
              show own_Go p e below _ (T_17.setTop (mkF m 76 #[.val (.ref cc), .val (.int p1), .val (.long q1), .second, .val (.int (p1 &&& (3 : Int32))), .val (.int pp), .val (.ref r_2)] [(.int (0 : Int32))]))
              rw [if_neg hv_22] at ezz
              subst ezz
              exact kz
          show own_Go p e below _ (T_17.setTop (mkF m 76 #[.val (.ref cc), .val (.int p1), .val (.long q1), .second, .val (.int (p1 &&& (3 : Int32))), .val (.int pp), .val (.ref r_2)] [(.int zz)]))
          obtain rfl : zz = (1 : Int32) := by rw [ezz]; first | (rcases hq with q | q <;> simp [q]; done) | simp [hq]
          show own_Go p e below _ (T_17.setTop (mkF m 76 #[.val (.ref cc), .val (.int p1), .val (.long q1), .second, .val (.int (p1 &&& (3 : Int32))), .val (.int pp), .val (.ref r_2)] [(.int (1 : Int32))]))
          have K_23 : Keep h0 T_17.heap [cc] := Keep.trans (ws := [cc]) (own_keep_mono (Keep.refl h0 []) (by simp)) K_17q (allS (Or.inl (List.mem_of_getElem? (i := 0) rfl)) all0)
          have nd_24 := own_nd (own_perm2 _ _ _ _) hnd hge K_23.1 Z0 q_17_0 q_17_3.lt q_17_1 q_17_5.lt q_17_2
          exact own_retv X_17 Bd.notSynchronized hx Bd.returns rfl (Or.inl ⟨rfl, (by simp), _, rfl⟩) (hb hby d4_76) (by decide) (by decide) ⟨(1 : Int32), rfl, N_17, K_23.1, (O0.keep K_23 (allS gcc all0)), (Or.inr rfl), (by rw [if_neg (by decide)]; exact ⟨rv, (.ref r_18), iv, Lr, [r_18, r_19], Li, (E1.keep K_23), q_17_10, q_17_11, q_17_12, (hRd.keep K_23 (own_d1 d1)), (Or.inr ⟨r_18, r_19, u_20, u_21, 1, (1 : Int32), (Nat.le_add_left 1 t), rfl, rfl, q_17_3, q_17_7, q_17_8, q_17_9, q_17_5, q_17_4, q_17_6⟩), (hIn.keep K_23 (own_d1 d3)), nd_24.1, nd_24.2, by simp⟩)⟩
        · have hn9 : n < 9 := by omega
          have gl := (hge li (by simp)).1
          have ga := (hge ar (by simp)).1
          have nel : ar ≠ li := fun q => by subst q; simp at nB
          have ncl : cc ≠ li := fun q => by subst q; simp at d2
          have nca : cc ≠ ar := fun q => by subst q; simp at d2
          obtain ⟨cq_25, kq_25, q_25a, q_25b, q_25c⟩ := isOf hZ e_1 E1
          obtain ⟨_, _, ⟨T_25, L_25, k_25, n_25⟩, -, X_25, ⟨Lc_25, hQ_25, l_25, y_25, z_25⟩, st_25⟩ := X_1.virtualBack hx (y := (⟨"com/example/optimistik/optimistik/engine/CommitChecks", "noteScan", "(Lcom/example/optimistik/optimistik/engine/EngineTable;Lcom/example/optimistik/optimistik/model/KeyRange;Ljava/util/function/Predicate;Lcom/example/optimistik/optimistik/model/IsolationLevel;)V"⟩ : MethodName)) (z := (⟨"com/example/optimistik/optimistik/engine/CommitChecks", "noteScan", "(Lcom/example/optimistik/optimistik/engine/EngineTable;Lcom/example/optimistik/optimistik/model/KeyRange;Ljava/util/function/Predicate;Lcom/example/optimistik/optimistik/model/IsolationLevel;)V"⟩ : MethodName)) hown (mvT hZ (own_w hw 130 rfl)) (mvT hZ (own_w hw 131 rfl)) (notFace_of_selects (args := #[]) (mvT hZ (own_w hw 133 rfl))) (mvT hZ (own_w hw 133 rfl)) (mvT hZ (own_w hw 132 rfl)) (by decide) (backOf (W := 0) (rmscanO l Z a0 hw [] cc r_2 li mm ar k vs n u0 u1 u2 u3 u4 h0 n0 Z0 O0 Su4 h4 F2 G1 G2 G3 G4 G5 G6 G7 hn9 gl ga nel) hZ (own_w hw 134 rfl) (own_w hw 2 rfl) (by decide) (by decide)) q_25a q_25c (g := (mkF m 62 #[.val (.ref cc), .val (.int p1), .val (.long q1), .second, .val (.int (p1 &&& (3 : Int32))), .val (.int pp), .val (.ref r_2)] [(.ref r_2), .null, .null, .null, (.ref cc)])) rfl (by rw [hml]; rfl) (Steps.refl _) (argsL := [.null, .null, .null, (.ref r_2)]) (rest := []) (lenOf pd_14 rfl) rfl (by show 2 * 0 + _ ≤ _; exact Nat.le_of_eq rfl) (hb hby d4_62) (fun _ _ => ⟨rfl, e_1, (by decide : 0 + 1 ≤ _), (by decide : 0 + 3 ≤ _)⟩)
          dsimp only [Pt.U, Pt.locs, Pt.cells, Pt.slots] at X_25 l_25 y_25 z_25 st_25 hQ_25
          subst l_25 y_25 z_25
          obtain ⟨u_26, rfl, Nq_25, K_25q, q_25_0, q_25_1, q_25_2, q_25_3, q_25_4⟩ := hQ_25
          have N_25 := Fr.app N_1 Nq_25
          refine own_via (fun _ k => st_25.trans k) ?_
          show own_Go p e below _ (T_25.setTop (mkF m 65 #[.val (.ref cc), .val (.int p1), .val (.long q1), .second, .val (.int (p1 &&& (3 : Int32))), .val (.int pp), .val (.ref r_2)] []))
          refine own_via (fun _ => XS.iload X_25.here hx rfl (hb hby d4_65) rfl) ?_
          show own_Go p e below _ (T_25.setTop (mkF m 67 #[.val (.ref cc), .val (.int p1), .val (.long q1), .second, .val (.int (p1 &&& (3 : Int32))), .val (.int pp), .val (.ref r_2)] [(.int pp)]))
          refine own_via (fun _ => XS.iconst X_25.here hx rfl (hb hby d4_67)) ?_
          show own_Go p e below _ (T_25.setTop (mkF m 68 #[.val (.ref cc), .val (.int p1), .val (.long q1), .second, .val (.int (p1 &&& (3 : Int32))), .val (.int pp), .val (.ref r_2)] [(.int (4 : Int32)), (.int pp)]))
          obtain ⟨zz, ezz⟩ : ∃ z : Int32, z = (if pp = (4 : Int32) then (1 : Int32) else (0 : Int32)) := ⟨_, rfl⟩
          refine own_seq (B := T_25.setTop (mkF m 76 #[.val (.ref cc), .val (.int p1), .val (.long q1), .second, .val (.int (p1 &&& (3 : Int32))), .val (.int pp), .val (.ref r_2)] [(.int zz)])) (fun kz => ?_) ?_
          · by_cases hv_27 : pp = (4 : Int32)
            · refine own_via (fun _ => XS.icmpNo X_25.here hx rfl (hb hby d4_68) rfl (teq (hv_27 : pp = (4 : Int32))).2) ?_
              show own_Go p e below _ (T_25.setTop (mkF m 71 #[.val (.ref cc), .val (.int p1), .val (.long q1), .second, .val (.int (p1 &&& (3 : Int32))), .val (.int pp), .val (.ref r_2)] []))
              refine own_via (fun _ => XS.iconst X_25.here hx rfl (hb hby d4_71)) ?_
              show own_Go p e below _ (T_25.setTop (mkF m 72 #[.val (.ref cc), .val (.int p1), .val (.long q1), .second, .val (.int (p1 &&& (3 : Int32))), .val (.int pp), .val (.ref r_2)] [(.int (1 : Int32))]))
              refine own_via (fun _ => XS.goto X_25.here hx rfl (pc0 := 72) (pc' := 76) rfl (hb hby d4_72) (by decide) (by decide)) ?_
              show own_Go p e below _ (T_25.setTop (mkF m 76 #[.val (.ref cc), .val (.int p1), .val (.long q1), .second, .val (.int (p1 &&& (3 : Int32))), .val (.int pp), .val (.ref r_2)] [(.int (1 : Int32))]))
              rw [if_pos hv_27] at ezz
              subst ezz
              exact kz
            · refine own_via (fun _ => XS.icmpYes X_25.here hx rfl (pc0 := 68) (pc' := 75) rfl (hb hby d4_68) rfl (feq (hv_27 : ¬ (pp = (4 : Int32)))).2 (by decide) (by decide)) ?_
              show own_Go p e below _ (T_25.setTop (mkF m 75 #[.val (.ref cc), .val (.int p1), .val (.long q1), .second, .val (.int (p1 &&& (3 : Int32))), .val (.int pp), .val (.ref r_2)] []))
              refine own_via (fun _ => XS.iconst X_25.here hx rfl (hb hby d4_75)) ?_
              show own_Go p e below _ (T_25.setTop (mkF m 76 #[.val (.ref cc), .val (.int p1), .val (.long q1), .second, .val (.int (p1 &&& (3 : Int32))), .val (.int pp), .val (.ref r_2)] [(.int (0 : Int32))]))
              rw [if_neg hv_27] at ezz
              subst ezz
              exact kz
          show own_Go p e below _ (T_25.setTop (mkF m 76 #[.val (.ref cc), .val (.int p1), .val (.long q1), .second, .val (.int (p1 &&& (3 : Int32))), .val (.int pp), .val (.ref r_2)] [(.int zz)]))
          obtain rfl : zz = (1 : Int32) := by rw [ezz]; first | (rcases hq with q | q <;> simp [q]; done) | simp [hq]
          show own_Go p e below _ (T_25.setTop (mkF m 76 #[.val (.ref cc), .val (.int p1), .val (.long q1), .second, .val (.int (p1 &&& (3 : Int32))), .val (.int pp), .val (.ref r_2)] [(.int (1 : Int32))]))
          have K_28 : Keep h0 T_25.heap [li, ar] := Keep.trans (ws := [li, ar]) (own_keep_mono (Keep.refl h0 []) (by simp)) K_25q (allS (Or.inl (List.mem_of_getElem? (i := 0) rfl)) (allS (Or.inl (List.mem_of_getElem? (i := 1) rfl)) all0))
          exact own_retv X_25 Bd.notSynchronized hx Bd.returns rfl (Or.inl ⟨rfl, (by simp), _, rfl⟩) (hb hby d4_76) (by decide) (by decide) ⟨(1 : Int32), rfl, N_25, K_28.1, (O0.keep K_28 (allS gl (allS ga all0))), (Or.inr rfl), (by rw [if_neg (by decide)]; exact ⟨rv, (.ref li), iv, Lr, [li, ar], Li, (E1.keep K_28), (F1.keep K_28 (ninS ncl (ninS nca nin0))), (F2.keep K_28 (ninS ncl (ninS nca nin0))), (F3.keep K_28 (ninS ncl (ninS nca nin0))), (hRd.keep K_28 (fun x hx => (dA x hx).1)), (Or.inr ⟨li, ar, k, u_26, (n + 1), (mm + (1 : Int32)), (Nat.succ_le_succ hn), rfl, rfl, (G1.keep K_28), q_25_2, q_25_3, q_25_4, q_25_0, G6, q_25_1⟩), (hIn.keep K_28 (fun x hx => (dC x hx).2)), hnd, (fun x hx => ⟨(hge x hx).1, Nat.lt_of_lt_of_le (hge x hx).2 K_28.1⟩), by simp⟩)⟩
      · have h4 := own_lv4N n34 q_1_0 hq
        obtain ⟨cq_29, kq_29, q_29a, q_29b, q_29c⟩ := isOf hZ e_1 E1
        obtain ⟨_, _, ⟨T_29, L_29, k_29, n_29⟩, -, X_29, ⟨Lc_29, hQ_29, l_29, y_29, z_29⟩, st_29⟩ := X_1.virtualBack hx (y := (⟨"com/example/optimistik/optimistik/engine/CommitChecks", "noteScan", "(Lcom/example/optimistik/optimistik/engine/EngineTable;Lcom/example/optimistik/optimistik/model/KeyRange;Ljava/util/function/Predicate;Lcom/example/optimistik/optimistik/model/IsolationLevel;)V"⟩ : MethodName)) (z := (⟨"com/example/optimistik/optimistik/engine/CommitChecks", "noteScan", "(Lcom/example/optimistik/optimistik/engine/EngineTable;Lcom/example/optimistik/optimistik/model/KeyRange;Ljava/util/function/Predicate;Lcom/example/optimistik/optimistik/model/IsolationLevel;)V"⟩ : MethodName)) hown (mvT hZ (own_w hw 130 rfl)) (mvT hZ (own_w hw 131 rfl)) (notFace_of_selects (args := #[]) (mvT hZ (own_w hw 133 rfl))) (mvT hZ (own_w hw 133 rfl)) (mvT hZ (own_w hw 132 rfl)) (by decide) (backOf (W := 0) (rmscanNo l Z a0 hw [] cc r_2 u0 u1 u2 u3 u4 h0 n0 Z0 O0 Su4 h4) hZ (own_w hw 134 rfl) (own_w hw 2 rfl) (by decide) (by decide)) q_29a q_29c (g := (mkF m 62 #[.val (.ref cc), .val (.int p1), .val (.long q1), .second, .val (.int (p1 &&& (3 : Int32))), .val (.int pp), .val (.ref r_2)] [(.ref r_2), .null, .null, .null, (.ref cc)])) rfl (by rw [hml]; rfl) (Steps.refl _) (argsL := [.null, .null, .null, (.ref r_2)]) (rest := []) (lenOf pd_14 rfl) rfl (by show 2 * 0 + _ ≤ _; exact Nat.le_of_eq rfl) (hb hby d4_62) (fun _ _ => ⟨rfl, e_1, (by decide : 0 + 0 ≤ _), (by decide : 0 + 0 ≤ _)⟩)
        dsimp only [Pt.U, Pt.locs, Pt.cells, Pt.slots] at X_29 l_29 y_29 z_29 st_29 hQ_29
        subst l_29 y_29 z_29
        obtain ⟨rfl, Nq_29, e_29⟩ := hQ_29
        have N_29 := Fr.app N_1 Nq_29
        refine own_via (fun _ k => st_29.trans k) ?_
        show own_Go p e below _ (T_29.setTop (mkF m 65 #[.val (.ref cc), .val (.int p1), .val (.long q1), .second, .val (.int (p1 &&& (3 : Int32))), .val (.int pp), .val (.ref r_2)] []))
        refine own_via (fun _ => XS.iload X_29.here hx rfl (hb hby d4_65) rfl) ?_
        show own_Go p e below _ (T_29.setTop (mkF m 67 #[.val (.ref cc), .val (.int p1), .val (.long q1), .second, .val (.int (p1 &&& (3 : Int32))), .val (.int pp), .val (.ref r_2)] [(.int pp)]))
        refine own_via (fun _ => XS.iconst X_29.here hx rfl (hb hby d4_67)) ?_
        show own_Go p e below _ (T_29.setTop (mkF m 68 #[.val (.ref cc), .val (.int p1), .val (.long q1), .second, .val (.int (p1 &&& (3 : Int32))), .val (.int pp), .val (.ref r_2)] [(.int (4 : Int32)), (.int pp)]))
        obtain ⟨zz, ezz⟩ : ∃ z : Int32, z = (if pp = (4 : Int32) then (1 : Int32) else (0 : Int32)) := ⟨_, rfl⟩
        refine own_seq (B := T_29.setTop (mkF m 76 #[.val (.ref cc), .val (.int p1), .val (.long q1), .second, .val (.int (p1 &&& (3 : Int32))), .val (.int pp), .val (.ref r_2)] [(.int zz)])) (fun kz => ?_) ?_
        · by_cases hv_30 : pp = (4 : Int32)
          · refine own_via (fun _ => XS.icmpNo X_29.here hx rfl (hb hby d4_68) rfl (teq (hv_30 : pp = (4 : Int32))).2) ?_
            show own_Go p e below _ (T_29.setTop (mkF m 71 #[.val (.ref cc), .val (.int p1), .val (.long q1), .second, .val (.int (p1 &&& (3 : Int32))), .val (.int pp), .val (.ref r_2)] []))
            refine own_via (fun _ => XS.iconst X_29.here hx rfl (hb hby d4_71)) ?_
            show own_Go p e below _ (T_29.setTop (mkF m 72 #[.val (.ref cc), .val (.int p1), .val (.long q1), .second, .val (.int (p1 &&& (3 : Int32))), .val (.int pp), .val (.ref r_2)] [(.int (1 : Int32))]))
            refine own_via (fun _ => XS.goto X_29.here hx rfl (pc0 := 72) (pc' := 76) rfl (hb hby d4_72) (by decide) (by decide)) ?_
            show own_Go p e below _ (T_29.setTop (mkF m 76 #[.val (.ref cc), .val (.int p1), .val (.long q1), .second, .val (.int (p1 &&& (3 : Int32))), .val (.int pp), .val (.ref r_2)] [(.int (1 : Int32))]))
            rw [if_pos hv_30] at ezz
            subst ezz
            exact kz
          · refine own_via (fun _ => XS.icmpYes X_29.here hx rfl (pc0 := 68) (pc' := 75) rfl (hb hby d4_68) rfl (feq (hv_30 : ¬ (pp = (4 : Int32)))).2 (by decide) (by decide)) ?_
            show own_Go p e below _ (T_29.setTop (mkF m 75 #[.val (.ref cc), .val (.int p1), .val (.long q1), .second, .val (.int (p1 &&& (3 : Int32))), .val (.int pp), .val (.ref r_2)] []))
            refine own_via (fun _ => XS.iconst X_29.here hx rfl (hb hby d4_75)) ?_
            show own_Go p e below _ (T_29.setTop (mkF m 76 #[.val (.ref cc), .val (.int p1), .val (.long q1), .second, .val (.int (p1 &&& (3 : Int32))), .val (.int pp), .val (.ref r_2)] [(.int (0 : Int32))]))
            rw [if_neg hv_30] at ezz
            subst ezz
            exact kz
        show own_Go p e below _ (T_29.setTop (mkF m 76 #[.val (.ref cc), .val (.int p1), .val (.long q1), .second, .val (.int (p1 &&& (3 : Int32))), .val (.int pp), .val (.ref r_2)] [(.int zz)]))
        obtain rfl : zz = (0 : Int32) := by rw [ezz]; first | (simp [hq]; done) | (have q1 : ¬ pp = 3 := fun q => hq (Or.inl q); have q2 : ¬ pp = 4 := fun q => hq (Or.inr q); simp [q1, q2])
        show own_Go p e below _ (T_29.setTop (mkF m 76 #[.val (.ref cc), .val (.int p1), .val (.long q1), .second, .val (.int (p1 &&& (3 : Int32))), .val (.int pp), .val (.ref r_2)] [(.int (0 : Int32))]))
        exact own_retv X_29 Bd.notSynchronized hx Bd.returns rfl (Or.inl ⟨rfl, (by simp), _, rfl⟩) (hb hby d4_76) (by decide) (by decide) (by rw [e_29]; exact ⟨(0 : Int32), rfl, N_29, (Nat.le_refl _), O0, (Or.inl rfl), (by rw [if_pos rfl]; exact C0.up)⟩)
    · refine own_via (fun _ => XS.icmpYes X_1.here hx rfl (pc0 := 53) (pc' := 77) rfl (hb hby d4_53) rfl (feq (ha2 : ¬ ((p1 &&& (3 : Int32)) = (2 : Int32)))).2 (by decide) (by decide)) ?_
      show own_Go p e below _ (T_1.setTop (mkF m 77 #[.val (.ref cc), .val (.int p1), .val (.long q1), .second, .val (.int (p1 &&& (3 : Int32))), .val (.int pp), .val (.ref r_2)] []))
      refine own_via (fun _ => XS.iload X_1.here hx rfl (hb hby d4_77) rfl) ?_
      show own_Go p e below _ (T_1.setTop (mkF m 79 #[.val (.ref cc), .val (.int p1), .val (.long q1), .second, .val (.int (p1 &&& (3 : Int32))), .val (.int pp), .val (.ref r_2)] [(.int (p1 &&& (3 : Int32)))]))
      refine own_via (fun _ => XS.iconst X_1.here hx rfl (hb hby d4_79)) ?_
      show own_Go p e below _ (T_1.setTop (mkF m 80 #[.val (.ref cc), .val (.int p1), .val (.long q1), .second, .val (.int (p1 &&& (3 : Int32))), .val (.int pp), .val (.ref r_2)] [(.int (3 : Int32)), (.int (p1 &&& (3 : Int32)))]))
      by_cases ha3 : (p1 &&& (3 : Int32)) = (3 : Int32)
      · refine own_via (fun _ => XS.icmpNo X_1.here hx rfl (hb hby d4_80) rfl (teq (ha3 : (p1 &&& (3 : Int32)) = (3 : Int32))).2) ?_
        show own_Go p e below _ (T_1.setTop (mkF m 83 #[.val (.ref cc), .val (.int p1), .val (.long q1), .second, .val (.int (p1 &&& (3 : Int32))), .val (.int pp), .val (.ref r_2)] []))
        refine own_via (fun _ => XS.aloadN X_1.here hx rfl (hb hby d4_83) rfl rfl) ?_
        show own_Go p e below _ (T_1.setTop (mkF m 84 #[.val (.ref cc), .val (.int p1), .val (.long q1), .second, .val (.int (p1 &&& (3 : Int32))), .val (.int pp), .val (.ref r_2)] [(.ref cc)]))
        refine own_via (fun _ => XS.aconstNull X_1.here hx rfl (hb hby d4_84)) ?_
        show own_Go p e below _ (T_1.setTop (mkF m 85 #[.val (.ref cc), .val (.int p1), .val (.long q1), .second, .val (.int (p1 &&& (3 : Int32))), .val (.int pp), .val (.ref r_2)] [.null, (.ref cc)]))
        refine own_via (fun _ => XS.lloadN X_1.here hx rfl (hb hby d4_85) rfl) ?_
        show own_Go p e below _ (T_1.setTop (mkF m 86 #[.val (.ref cc), .val (.int p1), .val (.long q1), .second, .val (.int (p1 &&& (3 : Int32))), .val (.int pp), .val (.ref r_2)] [(.long q1), .null, (.ref cc)]))
        obtain ⟨_, _, ⟨T_31, L_31, k_31, n_31⟩, -, X_31, ⟨Lc_31, hQ_31, l_31, y_31, z_31⟩, st_31⟩ := Jvm.LawKit.callS X_1 hx (y := (⟨"java/lang/Long", "valueOf", "(J)Ljava/lang/Long;"⟩ : MethodName)) hown (mvT hZ (own_w hw 30 rfl)) (mvT hZ (own_w hw 31 rfl)) (mvT hZ (own_w hw 32 rfl)) (mvT hZ (own_w hw 33 rfl)) (by decide) (backOf (W := 2) (rmvalueOf l Z a0 hw [] q1 la lc lval h0 n0 Z0 O0 Slc hbx) hZ (own_w hw 33 rfl) (own_w hw 32 rfl) (by decide) (by decide)) (g := (mkF m 86 #[.val (.ref cc), .val (.int p1), .val (.long q1), .second, .val (.int (p1 &&& (3 : Int32))), .val (.int pp), .val (.ref r_2)] [(.long q1), .null, (.ref cc)])) rfl (by rw [hml]; rfl) (argsL := [(.long q1)]) (rest := [.null, (.ref cc)]) (lenOf pd_15 rfl) rfl (by show 2 * 0 + _ ≤ _; exact Nat.le_of_eq rfl) (hb hby d4_86) (fun _ _ => ⟨rfl, e_1, (by decide : 0 + 1 ≤ _), (by decide : 0 + 1 ≤ _)⟩)
        dsimp only [Pt.U, Pt.locs, Pt.cells, Pt.slots] at X_31 l_31 y_31 z_31 st_31 hQ_31
        subst l_31 y_31 z_31
        obtain ⟨r_32, rfl, Nq_31, K_31q⟩ := hQ_31
        have N_31 := Fr.app N_1 Nq_31
        refine own_via st_31 ?_
        show own_Go p e below _ (T_31.setTop (mkF m 89 #[.val (.ref cc), .val (.int p1), .val (.long q1), .second, .val (.int (p1 &&& (3 : Int32))), .val (.int pp), .val (.ref r_2)] [(.ref r_32), .null, (.ref cc)]))
        rcases hIn with ⟨rfl, rfl⟩ | ⟨li, ar, k, vs, n, mm, hn, rfl, rfl, G1, G2, G3, G4, G5, G6, G7⟩
        · have K_33 : Keep h0 T_31.heap [] := Keep.trans (ws := []) (Keep.refl h0 []) K_31q all0
          obtain ⟨cq_34, kq_34, q_34a, q_34b, q_34c⟩ := isOf hZ rfl (E1.keep K_33)
          obtain ⟨_, _, ⟨T_34, L_34, k_34, n_34⟩, -, X_34, ⟨Lc_34, hQ_34, l_34, y_34, z_34⟩, st_34⟩ := X_31.virtualBack hx (y := (⟨"com/example/optimistik/optimistik/engine/CommitChecks", "noteInsert", "(Lcom/example/optimistik/optimistik/engine/EngineTable;Ljava/lang/Object;)V"⟩ : MethodName)) (z := (⟨"com/example/optimistik/optimistik/engine/CommitChecks", "noteInsert", "(Lcom/example/optimistik/optimistik/engine/EngineTable;Ljava/lang/Object;)V"⟩ : MethodName)) hown (mvT hZ (own_w hw 50 rfl)) (mvT hZ (own_w hw 51 rfl)) (notFace_of_selects (args := #[]) (mvT hZ (own_w hw 53 rfl))) (mvT hZ (own_w hw 53 rfl)) (mvT hZ (own_w hw 52 rfl)) (by decide) (backOf (W := 0) (rminsN l Z a0 hw [] cc r_32 rv sv dc kd T_31.heap n0 (Nat.le_trans Z0 K_33.1) (O0.keep K_33 all0) (E1.keep K_33) (F1.keep K_33 nin0) gcc (F2.keep K_33 nin0) (F3.keep K_33 nin0) Sdc Adc) hZ (own_w hw 54 rfl) (own_w hw 2 rfl) (by decide) (by decide)) q_34a q_34c (g := (mkF m 89 #[.val (.ref cc), .val (.int p1), .val (.long q1), .second, .val (.int (p1 &&& (3 : Int32))), .val (.int pp), .val (.ref r_2)] [(.ref r_32), .null, (.ref cc)])) rfl (by rw [hml]; rfl) (Steps.refl _) (argsL := [.null, (.ref r_32)]) (rest := []) (lenOf pd_11 rfl) rfl (by show 2 * 0 + _ ≤ _; exact Nat.le_of_eq rfl) (hb hby d4_89) (fun _ _ => ⟨rfl, rfl, (by decide : 1 + 3 ≤ _), (by decide : 1 + 15 ≤ _)⟩)
          dsimp only [Pt.U, Pt.locs, Pt.cells, Pt.slots] at X_34 l_34 y_34 z_34 st_34 hQ_34
          subst l_34 y_34 z_34
          obtain ⟨r_35, r_36, u_37, u_38, rfl, Nq_34, K_34q, q_34_0, q_34_1, q_34_2, q_34_3, q_34_4, q_34_5, q_34_6, q_34_7, q_34_8, q_34_9, q_34_10, q_34_11, q_34_12⟩ := hQ_34
          have N_34 := Fr.app N_31 Nq_34
          refine own_via (fun _ k => st_34.trans k) ?_
          show own_Go p e below _ (T_34.setTop (mkF m 92 #[.val (.ref cc), .val (.int p1), .val (.long q1), .second, .val (.int (p1 &&& (3 : Int32))), .val (.int pp), .val (.ref r_2)] []))
          refine own_via (fun _ => XS.iconst X_34.here hx rfl (hb hby d4_92)) ?_
          show own_Go p e below _ (T_34.setTop (mkF m 93 #[.val (.ref cc), .val (.int p1), .val (.long q1), .second, .val (.int (p1 &&& (3 : Int32))), .val (.int pp), .val (.ref r_2)] [(.int (1 : Int32))]))
          have K_39 : Keep h0 T_34.heap [cc] := Keep.trans (ws := [cc]) (own_keep_mono K_33 (by simp)) K_34q (allS (Or.inl (List.mem_of_getElem? (i := 0) rfl)) all0)
          have nd_40 := own_nd (own_perm3 _ _ _ _) hnd hge K_39.1 Z0 (Nat.le_trans K_33.1 q_34_0) q_34_3.lt (Nat.le_trans K_33.1 q_34_1) q_34_5.lt q_34_2
          exact own_retv X_34 Bd.notSynchronized hx Bd.returns rfl (Or.inl ⟨rfl, (by simp), _, rfl⟩) (hb hby d4_93) (by decide) (by decide) ⟨(1 : Int32), rfl, N_34, K_39.1, (O0.keep K_39 (allS gcc all0)), (Or.inr rfl), (by rw [if_neg (by decide)]; exact ⟨rv, sv, (.ref r_35), Lr, Ls, [r_35, r_36], (E1.keep K_39), q_34_10, q_34_11, q_34_12, (hRd.keep K_39 (own_d1 d1)), (hSc.keep K_39 (own_d1 d2)), (Or.inr ⟨r_35, r_36, u_37, u_38, 1, (1 : Int32), (Nat.le_add_left 1 t), rfl, rfl, q_34_3, q_34_7, q_34_8, q_34_9, q_34_5, q_34_4, q_34_6⟩), nd_40.1, nd_40.2, by simp⟩)⟩
        · have hn9 : n < 9 := by omega
          have gl := (hge li (by simp)).1
          have ga := (hge ar (by simp)).1
          have nel : ar ≠ li := fun q => by subst q; simp at nC
          have ncl : cc ≠ li := fun q => by subst q; simp at d3
          have nca : cc ≠ ar := fun q => by subst q; simp at d3
          have K_41 : Keep h0 T_31.heap [] := Keep.trans (ws := []) (Keep.refl h0 []) K_31q all0
          obtain ⟨cq_42, kq_42, q_42a, q_42b, q_42c⟩ := isOf hZ rfl (E1.keep K_41)
          obtain ⟨_, _, ⟨T_42, L_42, k_42, n_42⟩, -, X_42, ⟨Lc_42, hQ_42, l_42, y_42, z_42⟩, st_42⟩ := X_31.virtualBack hx (y := (⟨"com/example/optimistik/optimistik/engine/CommitChecks", "noteInsert", "(Lcom/example/optimistik/optimistik/engine/EngineTable;Ljava/lang/Object;)V"⟩ : MethodName)) (z := (⟨"com/example/optimistik/optimistik/engine/CommitChecks", "noteInsert", "(Lcom/example/optimistik/optimistik/engine/EngineTable;Ljava/lang/Object;)V"⟩ : MethodName)) hown (mvT hZ (own_w hw 50 rfl)) (mvT hZ (own_w hw 51 rfl)) (notFace_of_selects (args := #[]) (mvT hZ (own_w hw 53 rfl))) (mvT hZ (own_w hw 53 rfl)) (mvT hZ (own_w hw 52 rfl)) (by decide) (backOf (W := 0) (rminsO l Z a0 hw [] cc r_32 li mm ar k vs n T_31.heap n0 (Nat.le_trans Z0 K_41.1) (O0.keep K_41 all0) (F3.keep K_41 nin0) (G1.keep K_41) (G2.keep K_41 nin0) (G3.keep K_41 nin0) (G4.keep K_41 nin0) (G5.keep K_41 nin0) G6 G7 hn9 gl ga nel) hZ (own_w hw 54 rfl) (own_w hw 2 rfl) (by decide) (by decide)) q_42a q_42c (g := (mkF m 89 #[.val (.ref cc), .val (.int p1), .val (.long q1), .second, .val (.int (p1 &&& (3 : Int32))), .val (.int pp), .val (.ref r_2)] [(.ref r_32), .null, (.ref cc)])) rfl (by rw [hml]; rfl) (Steps.refl _) (argsL := [.null, (.ref r_32)]) (rest := []) (lenOf pd_11 rfl) rfl (by show 2 * 0 + _ ≤ _; exact Nat.le_of_eq rfl) (hb hby d4_89) (fun _ _ => ⟨rfl, rfl, (by decide : 1 + 1 ≤ _), (by decide : 1 + 2 ≤ _)⟩)
          dsimp only [Pt.U, Pt.locs, Pt.cells, Pt.slots] at X_42 l_42 y_42 z_42 st_42 hQ_42
          subst l_42 y_42 z_42
          obtain ⟨u_43, rfl, Nq_42, K_42q, q_42_0, q_42_1, q_42_2, q_42_3, q_42_4⟩ := hQ_42
          have N_42 := Fr.app N_31 Nq_42
          refine own_via (fun _ k => st_42.trans k) ?_
          show own_Go p e below _ (T_42.setTop (mkF m 92 #[.val (.ref cc), .val (.int p1), .val (.long q1), .second, .val (.int (p1 &&& (3 : Int32))), .val (.int pp), .val (.ref r_2)] []))
          refine own_via (fun _ => XS.iconst X_42.here hx rfl (hb hby d4_92)) ?_
          show own_Go p e below _ (T_42.setTop (mkF m 93 #[.val (.ref cc), .val (.int p1), .val (.long q1), .second, .val (.int (p1 &&& (3 : Int32))), .val (.int pp), .val (.ref r_2)] [(.int (1 : Int32))]))
          have K_44 : Keep h0 T_42.heap [li, ar] := Keep.trans (ws := [li, ar]) (own_keep_mono K_41 (by simp)) K_42q (allS (Or.inl (List.mem_of_getElem? (i := 0) rfl)) (allS (Or.inl (List.mem_of_getElem? (i := 1) rfl)) all0))
          exact own_retv X_42 Bd.notSynchronized hx Bd.returns rfl (Or.inl ⟨rfl, (by simp), _, rfl⟩) (hb hby d4_93) (by decide) (by decide) ⟨(1 : Int32), rfl, N_42, K_44.1, (O0.keep K_44 (allS gl (allS ga all0))), (Or.inr rfl), (by rw [if_neg (by decide)]; exact ⟨rv, sv, (.ref li), Lr, Ls, [li, ar], (E1.keep K_44), (F1.keep K_44 (ninS ncl (ninS nca nin0))), (F2.keep K_44 (ninS ncl (ninS nca nin0))), (F3.keep K_44 (ninS ncl (ninS nca nin0))), (hRd.keep K_44 (fun x hx => (dA x hx).2)), (hSc.keep K_44 (fun x hx => (dB x hx).2)), (Or.inr ⟨li, ar, k, u_43, (n + 1), (mm + (1 : Int32)), (Nat.succ_le_succ hn), rfl, rfl, (G1.keep K_44), q_42_2, q_42_3, q_42_4, q_42_0, G6, q_42_1⟩), hnd, (fun x hx => ⟨(hge x hx).1, Nat.lt_of_lt_of_le (hge x hx).2 K_44.1⟩), by simp⟩)⟩
      · refine own_via (fun _ => XS.icmpYes X_1.here hx rfl (pc0 := 80) (pc' := 94) rfl (hb hby d4_80) rfl (feq (ha3 : ¬ ((p1 &&& (3 : Int32)) = (3 : Int32)))).2 (by decide) (by decide)) ?_
        show own_Go p e below _ (T_1.setTop (mkF m 94 #[.val (.ref cc), .val (.int p1), .val (.long q1), .second, .val (.int (p1 &&& (3 : Int32))), .val (.int pp), .val (.ref r_2)] []))
        refine own_via (fun _ => XS.iconst X_1.here hx rfl (hb hby d4_94)) ?_
        show own_Go p e below _ (T_1.setTop (mkF m 95 #[.val (.ref cc), .val (.int p1), .val (.long q1), .second, .val (.int (p1 &&& (3 : Int32))), .val (.int pp), .val (.ref r_2)] [(.int (0 : Int32))]))
        exact own_retv X_1 Bd.notSynchronized hx Bd.returns rfl (Or.inl ⟨rfl, (by simp), _, rfl⟩) (hb hby d4_95) (by decide) (by decide) (by rw [e_1]; exact ⟨(0 : Int32), rfl, N_1, (Nat.le_refl _), O0, (Or.inl rfl), (by rw [if_pos rfl]; exact C0.up)⟩)
theorem own_eqz {b ze zn : Int32} {P : Prop} [Decidable P] (hb : b = if P then 0 else 1) (e : ze = if P then 1 else 0) (en : zn = if b = 0 then 1 else 0) : ze = zn := by
  subst hb e en
  by_cases h : P <;> simp [h]
theorem own_len {s : State} {args : Array Value} {t : Term} {x : Addr} {cl : Cell} {z : Int32} (ht : t.eval args s none [] s = some (.ref x)) (ha : s.arrayAt? x = some cl) (h : (Jvm.Cond.eq (Jvm.Term.length t) (Jvm.Term.int z)).value args s none s [] = some true) : cl.slots.size < 2 ^ 31 ∧ cl.slots.size.toInt32 = z := by
  have e := eqv_i (Term.int_eval z) h
  by_cases hl : cl.slots.size < 2 ^ 31
  · have q := (len_f ht ha hl).symm.trans e
    exact ⟨hl, Value.int.inj (Option.some.inj q)⟩
  · simp [Term.eval, ht, ha, hl] at e

theorem pd_16 : parseMethodDescriptor "()Z" = some ⟨[], some .boolean⟩ := by decide +kernel
theorem pd_17 : parseMethodDescriptor "(Lcom/example/optimistik/optimistik/engine/CommitChecks;IJ)Z" = some ⟨[(.object "com/example/optimistik/optimistik/engine/CommitChecks"), .int, .long], some .boolean⟩ := by decide +kernel
theorem ef_0 (m : MethodId) (p1 : Int32) (p2 : Int32) (p3 : Int32) (q4 : Int64) : entryFrame m #[(.int p1), (.int p2), (.int p3), (.long q4)] maxLocals = mkF m 0 #[.val (.int p1), .val (.int p2), .val (.int p3), .val (.long q4), .second, .unset, .unset, .unset] [] := by first | (simp [entryFrame, mkF, argsToLocals, Value.category, maxLocals]; done) | rfl
def Q0 (Z : State) (p1 : Int32) (p2 : Int32) (p3 : Int32) (q4 : Int64) (u0 : Addr) (u1 : Addr) (u2 : Addr) (u3 : Addr) (u4 : Addr) (dc : Addr) (kd : ClassId) (la : Addr) (lc : Cell) (lval : Int32 → Value) (h0 : Heap) (n0 : Nat) (v : Option Value) (h : Heap) (L : List Loc) : Prop := v = some (.int (1 : Int32)) ∧ Fr n0 L ∧ h0.size ≤ h.size ∧ Old Z n0 h
set_option maxRecDepth 65536 in
set_option maxHeartbeats 40000000 in
theorem rm0 (l : Launch) (Z : State) (a0 : Array Value) (hw : ∀ d ∈ tables_1, d.before a0 Z = true) (ws : List Jvm.Cond) (p1 : Int32) (p2 : Int32) (p3 : Int32) (q4 : Int64) (u0 : Addr) (u1 : Addr) (u2 : Addr) (u3 : Addr) (u4 : Addr) (dc : Addr) (kd : ClassId) (la : Addr) (lc : Cell) (lval : Int32 → Value) (h0 : Heap) (n0 : Nat) (Z0 : n0 ≤ h0.size) (O0 : Old Z n0 h0) (Su0 : Sta Z Z.heap "com/example/optimistik/optimistik/model/IsolationLevel" "READ_UNCOMMITTED" "Lcom/example/optimistik/optimistik/model/IsolationLevel;" (.ref u0)) (Su1 : Sta Z Z.heap "com/example/optimistik/optimistik/model/IsolationLevel" "READ_COMMITTED" "Lcom/example/optimistik/optimistik/model/IsolationLevel;" (.ref u1)) (Su2 : Sta Z Z.heap "com/example/optimistik/optimistik/model/IsolationLevel" "SNAPSHOT" "Lcom/example/optimistik/optimistik/model/IsolationLevel;" (.ref u2)) (Su3 : Sta Z Z.heap "com/example/optimistik/optimistik/model/IsolationLevel" "REPEATABLE_READ" "Lcom/example/optimistik/optimistik/model/IsolationLevel;" (.ref u3)) (Su4 : Sta Z Z.heap "com/example/optimistik/optimistik/model/IsolationLevel" "SERIALIZABLE" "Lcom/example/optimistik/optimistik/model/IsolationLevel;" (.ref u4)) (n03 : u0 ≠ u3) (n13 : u1 ≠ u3) (n23 : u2 ≠ u3) (n04 : u0 ≠ u4) (n14 : u1 ≠ u4) (n24 : u2 ≠ u4) (n34 : u3 ≠ u4) (Sdc : Sta Z Z.heap "java/util/ArrayList" "DEFAULTCAPACITY_EMPTY_ELEMENTDATA" "[Ljava/lang/Object;" (.ref dc)) (Adc : Arv Z Z.heap dc kd (.object "java/lang/Object") (0 : Int32) [] .null) (Slc : Sta Z Z.heap "java/lang/Long$LongCache" "cache" "[Ljava/lang/Long;" (.ref la)) (hbx : Bxs Z la lc "java/lang/Long" "J" 256 lval) :
    MetFree l x (head1 (Jvm.Cond.code x code maxLocals ret :: ws) room_1) (fun a U => a = #[(.int p1), (.int p2), (.int p3), (.long q4)] ∧ Z.Warmed39 U.vm ∧ U.heap = h0) (fun _ _ _ _ _ => True) (fun _ U o U' => ∃ v L, o = .returned v ∧ Q0 Z p1 p2 p3 q4 u0 u1 u2 u3 u4 dc kd la lc lval h0 n0 v U'.heap L ∧ FrameEnd U o U' L room_1.cells room_1.slots) := by
  refine MetFree.of_bodySF (plainFor_of_name pn_com_example_optimistik_optimistik_engine_CommitChecksIsEmptyPinLaw) hisR ?_
  intro p e s m args below meth c s₁ Bd hml0 hP hK
  obtain ⟨rfl, hZ, hH0⟩ := hP
  have hx := Bd.exec
  have hby := Bd.bytes
  have hml : c.maxLocals = 8 := hml0
  have hown : s.vm.findClass "com/example/optimistik/optimistik/engine/CommitChecksIsEmptyPinLaw" = some m.cls := findClass_of_methodNamed Bd.named
  have hnm := (name_of_methodNamed Bd.named Bd.method).1
  have X0 : Stand p l e room_1 s m #[(.int p1), (.int p2), (.int p3), (.long q4)] below meth c s₁ [] 0 0 := Stand.of_body Bd
  have e0 : s₁.heap = h0 := by rw [← hH0, Bd.state]; rfl
  have N0 := Fr.nil n0
  refine own_cast (ef_0 m p1 p2 p3 q4) ?_
  show own_Go p e below (fun o U' => ∃ v L, o = .returned v ∧ Q0 Z p1 p2 p3 q4 u0 u1 u2 u3 u4 dc kd la lc lval h0 n0 v U'.heap L ∧ FrameEnd s o U' L room_1.cells room_1.slots) (s₁.setTop (mkF m 0 #[.val (.int p1), .val (.int p2), .val (.int p3), .val (.long q4), .second, .unset, .unset, .unset] []))
  obtain ⟨T_1, h_1, X_1, e_1, E_1, A_1, D_1, -, st_1⟩ := newO X0 hx hZ hown (own_w hw 0 rfl) (own_w hw 1 rfl) (own_w hw 2 rfl) e0 (g := (mkF m 0 #[.val (.int p1), .val (.int p2), .val (.int p3), .val (.long q4), .second, .unset, .unset, .unset] [])) rfl (hb hby at_0) (by decide) (by decide)
  obtain ⟨b_1, g_1⟩ : ∃ z, z = h0.size := ⟨_, rfl⟩
  rw [← g_1] at A_1 D_1 st_1
  have F_2 : Fld Z h_1 b_1 "com/example/optimistik/optimistik/engine/CommitChecks" "reads" "Lcom/example/optimistik/optimistik/engine/IdentitySet;" .null := D_1 (Or.inl (own_w hw 15 rfl)) (ty := (.object "com/example/optimistik/optimistik/engine/IdentitySet")) (by decide)
  have F_3 : Fld Z h_1 b_1 "com/example/optimistik/optimistik/engine/CommitChecks" "scans" "Ljava/util/List;" .null := D_1 (Or.inl (own_w hw 17 rfl)) (ty := (.object "java/util/List")) (by decide)
  have F_4 : Fld Z h_1 b_1 "com/example/optimistik/optimistik/engine/CommitChecks" "inserted" "Ljava/util/List;" .null := D_1 (Or.inl (own_w hw 19 rfl)) (ty := (.object "java/util/List")) (by decide)
  refine own_via st_1 ?_
  show own_Go p e below _ (T_1.setTop (mkF m 3 #[.val (.int p1), .val (.int p2), .val (.int p3), .val (.long q4), .second, .unset, .unset, .unset] [(.ref b_1)]))
  refine own_via (fun _ => XS.dup X_1.here hx rfl (hb hby at_3) rfl rfl) ?_
  show own_Go p e below _ (T_1.setTop (mkF m 4 #[.val (.int p1), .val (.int p2), .val (.int p3), .val (.long q4), .second, .unset, .unset, .unset] [(.ref b_1), (.ref b_1)]))
  have K_5 : Keep h0 h_1 [] := (Keep.refl h0 []).ext E_1
  obtain ⟨_, _, ⟨T_6, L_6, k_6, n_6⟩, -, X_6, ⟨Lc_6, hQ_6, l_6, y_6, z_6⟩, st_6⟩ := X_1.specialBack hx (y := (⟨"com/example/optimistik/optimistik/engine/CommitChecks", "<init>", "()V"⟩ : MethodName)) rfl hown (mvT hZ (own_w hw 3 rfl)) (mvT hZ (own_w hw 4 rfl)) (mvT hZ (own_w hw 5 rfl)) (by decide) (backOf (W := 1) (rmccInit l Z a0 hw [] b_1 h_1 n0 (Nat.le_trans Z0 K_5.1) ) hZ (own_w hw 5 rfl) (own_w hw 2 rfl) (by decide) (by decide)) (g := (mkF m 4 #[.val (.int p1), .val (.int p2), .val (.int p3), .val (.long q4), .second, .unset, .unset, .unset] [(.ref b_1), (.ref b_1)])) rfl (by rw [hml]; rfl) (Steps.refl _) (a := b_1) (argsL := []) (rest := [(.ref b_1)]) (lenOf pd_0 rfl) rfl (by show 2 * 0 + _ ≤ _; exact Nat.le_of_eq rfl) (hb hby at_4) (fun _ _ => ⟨rfl, e_1, (by decide : 1 + 0 ≤ _), (by decide : 3 + 0 ≤ _)⟩)
  dsimp only [Pt.U, Pt.locs, Pt.cells, Pt.slots] at X_6 l_6 y_6 z_6 st_6 hQ_6
  subst l_6 y_6 z_6
  obtain ⟨rfl, Nq_6, K_6q⟩ := hQ_6
  have N_6 := Fr.app N0 Nq_6
  refine own_via (fun _ k => st_6.trans k) ?_
  show own_Go p e below _ (T_6.setTop (mkF m 7 #[.val (.int p1), .val (.int p2), .val (.int p3), .val (.long q4), .second, .unset, .unset, .unset] [(.ref b_1)]))
  refine own_via (fun _ => XS.astore X_6.here hx rfl (hb hby at_7) rfl rfl (l' := #[.val (.int p1), .val (.int p2), .val (.int p3), .val (.long q4), .second, .val (.ref b_1), .unset, .unset]) rfl) ?_
  show own_Go p e below _ (T_6.setTop (mkF m 9 #[.val (.int p1), .val (.int p2), .val (.int p3), .val (.long q4), .second, .val (.ref b_1), .unset, .unset] []))
  refine own_via (fun _ => XS.aload X_6.here hx rfl (hb hby at_9) rfl rfl) ?_
  show own_Go p e below _ (T_6.setTop (mkF m 11 #[.val (.int p1), .val (.int p2), .val (.int p3), .val (.long q4), .second, .val (.ref b_1), .unset, .unset] [(.ref b_1)]))
  have K_7 : Keep h_1 T_6.heap [] := Keep.trans (ws := []) (Keep.refl h_1 []) K_6q all0
  have K_8 : Keep h0 T_6.heap [] := Keep.trans (ws := []) K_5 K_6q all0
  obtain ⟨cq_9, kq_9, q_9a, q_9b, q_9c⟩ := isOf hZ rfl (A_1.keep K_7)
  obtain ⟨_, _, ⟨T_9, L_9, k_9, n_9⟩, -, X_9, ⟨Lc_9, hQ_9, l_9, y_9, z_9⟩, st_9⟩ := X_6.virtualBack hx (y := (⟨"com/example/optimistik/optimistik/engine/CommitChecks", "isEmpty", "()Z"⟩ : MethodName)) (z := (⟨"com/example/optimistik/optimistik/engine/CommitChecks", "isEmpty", "()Z"⟩ : MethodName)) hown (mvT hZ (own_w hw 9 rfl)) (mvT hZ (own_w hw 10 rfl)) (notFace_of_selects (args := #[]) (mvT hZ (own_w hw 12 rfl))) (mvT hZ (own_w hw 12 rfl)) (mvT hZ (own_w hw 11 rfl)) (by decide) (backOf (W := 0) (rmisEmpty l Z a0 hw [] b_1 .null .null .null T_6.heap n0 (Nat.le_trans Z0 K_8.1) (F_2.keep K_7 nin0) (F_3.keep K_7 nin0) (F_4.keep K_7 nin0) rfl rfl rfl) hZ (own_w hw 13 rfl) (own_w hw 2 rfl) (by decide) (by decide)) q_9a q_9c (g := (mkF m 11 #[.val (.int p1), .val (.int p2), .val (.int p3), .val (.long q4), .second, .val (.ref b_1), .unset, .unset] [(.ref b_1)])) rfl (by rw [hml]; rfl) (Steps.refl _) (argsL := []) (rest := []) (lenOf pd_16 rfl) rfl (by show 2 * 0 + _ ≤ _; exact Nat.le_of_eq rfl) (hb hby at_11) (fun _ _ => ⟨rfl, rfl, (by decide : 1 + 0 ≤ _), (by decide : 3 + 0 ≤ _)⟩)
  dsimp only [Pt.U, Pt.locs, Pt.cells, Pt.slots] at X_9 l_9 y_9 z_9 st_9 hQ_9
  subst l_9 y_9 z_9
  obtain ⟨i_10, rfl, Nq_9, e_9, q_9_0⟩ := hQ_9
  have N_9 := Fr.app N_6 Nq_9
  refine own_via (fun _ k => st_9.trans k) ?_
  show own_Go p e below _ (T_9.setTop (mkF m 14 #[.val (.int p1), .val (.int p2), .val (.int p3), .val (.long q4), .second, .val (.ref b_1), .unset, .unset] [(.int i_10)]))
  obtain rfl : i_10 = (1 : Int32) := by rw [q_9_0]; simp
  show own_Go p e below _ (T_9.setTop (mkF m 14 #[.val (.int p1), .val (.int p2), .val (.int p3), .val (.long q4), .second, .val (.ref b_1), .unset, .unset] [(.int (1 : Int32))]))
  refine own_via (fun _ => XS.istore X_9.here hx rfl (hb hby at_14) rfl (l' := #[.val (.int p1), .val (.int p2), .val (.int p3), .val (.long q4), .second, .val (.ref b_1), .val (.int (1 : Int32)), .unset]) rfl) ?_
  show own_Go p e below _ (T_9.setTop (mkF m 16 #[.val (.int p1), .val (.int p2), .val (.int p3), .val (.long q4), .second, .val (.ref b_1), .val (.int (1 : Int32)), .unset] []))
  refine own_via (fun _ => XS.iconst X_9.here hx rfl (hb hby at_16)) ?_
  show own_Go p e below _ (T_9.setTop (mkF m 17 #[.val (.int p1), .val (.int p2), .val (.int p3), .val (.long q4), .second, .val (.ref b_1), .val (.int (1 : Int32)), .unset] [(.int (0 : Int32))]))
  refine own_via (fun _ => XS.istore X_9.here hx rfl (hb hby at_17) rfl (l' := #[.val (.int p1), .val (.int p2), .val (.int p3), .val (.long q4), .second, .val (.ref b_1), .val (.int (1 : Int32)), .val (.int (0 : Int32))]) rfl) ?_
  show own_Go p e below _ (T_9.setTop (mkF m 19 #[.val (.int p1), .val (.int p2), .val (.int p3), .val (.long q4), .second, .val (.ref b_1), .val (.int (1 : Int32)), .val (.int (0 : Int32))] []))
  refine own_via (fun _ => XS.aload X_9.here hx rfl (hb hby at_19) rfl rfl) ?_
  show own_Go p e below _ (T_9.setTop (mkF m 21 #[.val (.int p1), .val (.int p2), .val (.int p3), .val (.long q4), .second, .val (.ref b_1), .val (.int (1 : Int32)), .val (.int (0 : Int32))] [(.ref b_1)]))
  refine own_via (fun _ => XS.iloadN X_9.here hx rfl (hb hby at_21) rfl) ?_
  show own_Go p e below _ (T_9.setTop (mkF m 22 #[.val (.int p1), .val (.int p2), .val (.int p3), .val (.long q4), .second, .val (.ref b_1), .val (.int (1 : Int32)), .val (.int (0 : Int32))] [(.int p1), (.ref b_1)]))
  refine own_via (fun _ => XS.lloadN X_9.here hx rfl (hb hby at_22) rfl) ?_
  show own_Go p e below _ (T_9.setTop (mkF m 23 #[.val (.int p1), .val (.int p2), .val (.int p3), .val (.long q4), .second, .val (.ref b_1), .val (.int (1 : Int32)), .val (.int (0 : Int32))] [(.long q4), (.int p1), (.ref b_1)]))
  have CC0 : own_CC Z T_6.heap b_1 n0 0 (0 : Int32) := ⟨.null, .null, .null, [], [], [], (A_1.keep K_7), (F_2.keep K_7 nin0), (F_3.keep K_7 nin0), (F_4.keep K_7 nin0), Or.inl ⟨rfl, rfl⟩, Or.inl ⟨rfl, rfl⟩, Or.inl ⟨rfl, rfl⟩, by simp, (fun x hx => by have e : x = b_1 := (by simpa using hx); rw [e]; exact ⟨(Nat.le_trans Z0 (Nat.le_of_eq g_1.symm)), (Nat.lt_of_lt_of_le A_1.lt K_7.1)⟩), by simp⟩
  obtain ⟨_, _, ⟨T_11, L_11, k_11, n_11⟩, -, X_11, ⟨Lc_11, hQ_11, l_11, y_11, z_11⟩, st_11⟩ := Jvm.LawKit.callS X_9 hx (y := (⟨"com/example/optimistik/optimistik/engine/CommitChecksIsEmptyPinLaw", "step", "(Lcom/example/optimistik/optimistik/engine/CommitChecks;IJ)Z"⟩ : MethodName)) hown (mvT hZ (own_w hw 20 rfl)) (mvT hZ (own_w hw 21 rfl)) (mvT hZ (own_w hw 22 rfl)) (mvT hZ (own_w hw 23 rfl)) (by decide) (backOf (W := 0) (rmstep l Z a0 hw [] b_1 p1 q4 0 (0 : Int32) u0 u1 u2 u3 u4 dc kd la lc lval T_6.heap n0 (Nat.le_trans Z0 K_8.1) (O0.keep K_8 all0) CC0 (by decide) Su0 Su1 Su2 Su3 Su4 n03 n13 n23 n04 n14 n24 n34 Sdc Adc Slc hbx) hZ (own_w hw 23 rfl) (own_w hw 22 rfl) (by decide) (by decide)) (g := (mkF m 23 #[.val (.int p1), .val (.int p2), .val (.int p3), .val (.long q4), .second, .val (.ref b_1), .val (.int (1 : Int32)), .val (.int (0 : Int32))] [(.long q4), (.int p1), (.ref b_1)])) rfl (by rw [hml]; rfl) (argsL := [(.ref b_1), (.int p1), (.long q4)]) (rest := []) (lenOf pd_17 rfl) rfl (by show 2 * 0 + _ ≤ _; exact Nat.le_of_eq rfl) (hb hby at_23) (fun _ _ => ⟨rfl, e_9, (by decide : 1 + 4 ≤ _), (by decide : 3 + 17 ≤ _)⟩)
  dsimp only [Pt.U, Pt.locs, Pt.cells, Pt.slots] at X_11 l_11 y_11 z_11 st_11 hQ_11
  subst l_11 y_11 z_11
  obtain ⟨zs0, rfl, Nq_11, hz_11, Old_11, q_11_0, q_11_1⟩ := hQ_11
  have N_11 := Fr.app N_9 Nq_11
  have Zs_11 : n0 ≤ T_11.heap.size := Nat.le_trans (Nat.le_trans Z0 K_8.1) hz_11
  refine own_via st_11 ?_
  show own_Go p e below _ (T_11.setTop (mkF m 26 #[.val (.int p1), .val (.int p2), .val (.int p3), .val (.long q4), .second, .val (.ref b_1), .val (.int (1 : Int32)), .val (.int (0 : Int32))] [(.int zs0)]))
  obtain ⟨zt0, ezt0⟩ : ∃ z : Int32, z = (if zs0 = (0 : Int32) then (0 : Int32) else (1 : Int32)) := ⟨_, rfl⟩
  refine own_seq (B := T_11.setTop (mkF m 39 #[.val (.int p1), .val (.int p2), .val (.int p3), .val (.long q4), .second, .val (.ref b_1), .val (.int (1 : Int32)), .val (.int (0 : Int32))] [(.int zt0)])) (fun kz => ?_) ?_
  · by_cases hv_12 : zs0 = (0 : Int32)
    · refine own_via (fun _ => XS.ifNo X_11.here hx rfl (hb hby at_26) rfl ((if0 _ _).trans (teq (hv_12 : zs0 = (0 : Int32))).2)) ?_
      show own_Go p e below _ (T_11.setTop (mkF m 29 #[.val (.int p1), .val (.int p2), .val (.int p3), .val (.long q4), .second, .val (.ref b_1), .val (.int (1 : Int32)), .val (.int (0 : Int32))] []))
      refine own_via (fun _ => XS.iload X_11.here hx rfl (hb hby at_29) rfl) ?_
      show own_Go p e below _ (T_11.setTop (mkF m 31 #[.val (.int p1), .val (.int p2), .val (.int p3), .val (.long q4), .second, .val (.ref b_1), .val (.int (1 : Int32)), .val (.int (0 : Int32))] [(.int (0 : Int32))]))
      refine own_via (fun _ => XS.ifYes X_11.here hx rfl (pc0 := 31) (pc' := 38) rfl (hb hby at_31) rfl ((if0 _ _).trans (teq ((by decide) : (0 : Int32) = (0 : Int32))).1) (by decide) (by decide)) ?_
      show own_Go p e below _ (T_11.setTop (mkF m 38 #[.val (.int p1), .val (.int p2), .val (.int p3), .val (.long q4), .second, .val (.ref b_1), .val (.int (1 : Int32)), .val (.int (0 : Int32))] []))
      refine own_via (fun _ => XS.iconst X_11.here hx rfl (hb hby at_38)) ?_
      show own_Go p e below _ (T_11.setTop (mkF m 39 #[.val (.int p1), .val (.int p2), .val (.int p3), .val (.long q4), .second, .val (.ref b_1), .val (.int (1 : Int32)), .val (.int (0 : Int32))] [(.int (0 : Int32))]))
      rw [if_pos hv_12] at ezt0
      subst ezt0
      exact kz
    · refine own_via (fun _ => XS.ifYes X_11.here hx rfl (pc0 := 26) (pc' := 34) rfl (hb hby at_26) rfl ((if0 _ _).trans (feq (hv_12 : ¬ (zs0 = (0 : Int32)))).2) (by decide) (by decide)) ?_
      show own_Go p e below _ (T_11.setTop (mkF m 34 #[.val (.int p1), .val (.int p2), .val (.int p3), .val (.long q4), .second, .val (.ref b_1), .val (.int (1 : Int32)), .val (.int (0 : Int32))] []))
      refine own_via (fun _ => XS.iconst X_11.here hx rfl (hb hby at_34)) ?_
      show own_Go p e below _ (T_11.setTop (mkF m 35 #[.val (.int p1), .val (.int p2), .val (.int p3), .val (.long q4), .second, .val (.ref b_1), .val (.int (1 : Int32)), .val (.int (0 : Int32))] [(.int (1 : Int32))]))
      refine own_via (fun _ => XS.goto X_11.here hx rfl (pc0 := 35) (pc' := 39) rfl (hb hby at_35) (by decide) (by decide)) ?_
      show own_Go p e below _ (T_11.setTop (mkF m 39 #[.val (.int p1), .val (.int p2), .val (.int p3), .val (.long q4), .second, .val (.ref b_1), .val (.int (1 : Int32)), .val (.int (0 : Int32))] [(.int (1 : Int32))]))
      rw [if_neg hv_12] at ezt0
      subst ezt0
      exact kz
  show own_Go p e below _ (T_11.setTop (mkF m 39 #[.val (.int p1), .val (.int p2), .val (.int p3), .val (.long q4), .second, .val (.ref b_1), .val (.int (1 : Int32)), .val (.int (0 : Int32))] [(.int zt0)]))
  have hzt0 : zt0 = 0 ∨ zt0 = 1 := by rw [ezt0]; rcases q_11_0 with q | q <;> simp [q]
  have Cn0 : own_CC Z T_11.heap b_1 n0 1 zt0 := by have q0 := q_11_1; have q1 : (if zs0 = 0 then (0 : Int32) else 1) = zt0 := (by rw [ezt0]; first | done | (rcases q_11_0 with q | q <;> simp [q])); rw [q1] at q0; exact q0
  have Cm0 := Cn0
  obtain ⟨rv0, sv0, iv0, Lr0, Ls0, Li0, E10, F10, F20, F30, hRd0, hSc0, hIn0, hnd0, hge0, hb0⟩ := Cm0
  refine own_via (fun _ => XS.istore X_11.here hx rfl (hb hby at_39) rfl (l' := #[.val (.int p1), .val (.int p2), .val (.int p3), .val (.long q4), .second, .val (.ref b_1), .val (.int (1 : Int32)), .val (.int zt0)]) rfl) ?_
  show own_Go p e below _ (T_11.setTop (mkF m 41 #[.val (.int p1), .val (.int p2), .val (.int p3), .val (.long q4), .second, .val (.ref b_1), .val (.int (1 : Int32)), .val (.int zt0)] []))
  refine own_via (fun _ => XS.iload X_11.here hx rfl (hb hby at_41) rfl) ?_
  show own_Go p e below _ (T_11.setTop (mkF m 43 #[.val (.int p1), .val (.int p2), .val (.int p3), .val (.long q4), .second, .val (.ref b_1), .val (.int (1 : Int32)), .val (.int zt0)] [(.int (1 : Int32))]))
  refine own_via (fun _ => XS.ifNo X_11.here hx rfl (hb hby at_43) rfl ((if0 _ _).trans (feq ((by decide) : ¬ ((1 : Int32) = (0 : Int32)))).1)) ?_
  show own_Go p e below _ (T_11.setTop (mkF m 46 #[.val (.int p1), .val (.int p2), .val (.int p3), .val (.long q4), .second, .val (.ref b_1), .val (.int (1 : Int32)), .val (.int zt0)] []))
  refine own_via (fun _ => XS.aload X_11.here hx rfl (hb hby at_46) rfl rfl) ?_
  show own_Go p e below _ (T_11.setTop (mkF m 48 #[.val (.int p1), .val (.int p2), .val (.int p3), .val (.long q4), .second, .val (.ref b_1), .val (.int (1 : Int32)), .val (.int zt0)] [(.ref b_1)]))
  obtain ⟨cq_13, kq_13, q_13a, q_13b, q_13c⟩ := isOf hZ rfl E10
  obtain ⟨_, _, ⟨T_13, L_13, k_13, n_13⟩, -, X_13, ⟨Lc_13, hQ_13, l_13, y_13, z_13⟩, st_13⟩ := X_11.virtualBack hx (y := (⟨"com/example/optimistik/optimistik/engine/CommitChecks", "isEmpty", "()Z"⟩ : MethodName)) (z := (⟨"com/example/optimistik/optimistik/engine/CommitChecks", "isEmpty", "()Z"⟩ : MethodName)) hown (mvT hZ (own_w hw 9 rfl)) (mvT hZ (own_w hw 10 rfl)) (notFace_of_selects (args := #[]) (mvT hZ (own_w hw 12 rfl))) (mvT hZ (own_w hw 12 rfl)) (mvT hZ (own_w hw 11 rfl)) (by decide) (backOf (W := 0) (rmisEmpty l Z a0 hw [] b_1 rv0 sv0 iv0 T_11.heap n0 Zs_11 F10 F20 F30 hRd0.ref hSc0.ref hIn0.ref) hZ (own_w hw 13 rfl) (own_w hw 2 rfl) (by decide) (by decide)) q_13a q_13c (g := (mkF m 48 #[.val (.int p1), .val (.int p2), .val (.int p3), .val (.long q4), .second, .val (.ref b_1), .val (.int (1 : Int32)), .val (.int zt0)] [(.ref b_1)])) rfl (by rw [hml]; rfl) (Steps.refl _) (argsL := []) (rest := []) (lenOf pd_16 rfl) rfl (by show 2 * 0 + _ ≤ _; exact Nat.le_of_eq rfl) (hb hby at_48) (fun _ _ => ⟨rfl, rfl, (by decide : 5 + 0 ≤ _), (by decide : 20 + 0 ≤ _)⟩)
  dsimp only [Pt.U, Pt.locs, Pt.cells, Pt.slots] at X_13 l_13 y_13 z_13 st_13 hQ_13
  subst l_13 y_13 z_13
  obtain ⟨i_14, rfl, Nq_13, e_13, q_13_0⟩ := hQ_13
  have N_13 := Fr.app N_11 Nq_13
  refine own_via (fun _ k => st_13.trans k) ?_
  show own_Go p e below _ (T_13.setTop (mkF m 51 #[.val (.int p1), .val (.int p2), .val (.int p3), .val (.long q4), .second, .val (.ref b_1), .val (.int (1 : Int32)), .val (.int zt0)] [(.int i_14)]))
  refine own_via (fun _ => XS.iload X_13.here hx rfl (hb hby at_51) rfl) ?_
  show own_Go p e below _ (T_13.setTop (mkF m 53 #[.val (.int p1), .val (.int p2), .val (.int p3), .val (.long q4), .second, .val (.ref b_1), .val (.int (1 : Int32)), .val (.int zt0)] [(.int zt0), (.int i_14)]))
  obtain ⟨zn0, ezn0⟩ : ∃ z : Int32, z = (if zt0 = (0 : Int32) then (1 : Int32) else (0 : Int32)) := ⟨_, rfl⟩
  refine own_seq (B := T_13.setTop (mkF m 61 #[.val (.int p1), .val (.int p2), .val (.int p3), .val (.long q4), .second, .val (.ref b_1), .val (.int (1 : Int32)), .val (.int zt0)] [(.int zn0), (.int i_14)])) (fun kz => ?_) ?_
  · by_cases hv_15 : zt0 = (0 : Int32)
    · refine own_via (fun _ => XS.ifNo X_13.here hx rfl (hb hby at_53) rfl ((if0 _ _).trans (teq (hv_15 : zt0 = (0 : Int32))).2)) ?_
      show own_Go p e below _ (T_13.setTop (mkF m 56 #[.val (.int p1), .val (.int p2), .val (.int p3), .val (.long q4), .second, .val (.ref b_1), .val (.int (1 : Int32)), .val (.int zt0)] [(.int i_14)]))
      refine own_via (fun _ => XS.iconst X_13.here hx rfl (hb hby at_56)) ?_
      show own_Go p e below _ (T_13.setTop (mkF m 57 #[.val (.int p1), .val (.int p2), .val (.int p3), .val (.long q4), .second, .val (.ref b_1), .val (.int (1 : Int32)), .val (.int zt0)] [(.int (1 : Int32)), (.int i_14)]))
      refine own_via (fun _ => XS.goto X_13.here hx rfl (pc0 := 57) (pc' := 61) rfl (hb hby at_57) (by decide) (by decide)) ?_
      show own_Go p e below _ (T_13.setTop (mkF m 61 #[.val (.int p1), .val (.int p2), .val (.int p3), .val (.long q4), .second, .val (.ref b_1), .val (.int (1 : Int32)), .val (.int zt0)] [(.int (1 : Int32)), (.int i_14)]))
      rw [if_pos hv_15] at ezn0
      subst ezn0
      exact kz
    · refine own_via (fun _ => XS.ifYes X_13.here hx rfl (pc0 := 53) (pc' := 60) rfl (hb hby at_53) rfl ((if0 _ _).trans (feq (hv_15 : ¬ (zt0 = (0 : Int32)))).2) (by decide) (by decide)) ?_
      show own_Go p e below _ (T_13.setTop (mkF m 60 #[.val (.int p1), .val (.int p2), .val (.int p3), .val (.long q4), .second, .val (.ref b_1), .val (.int (1 : Int32)), .val (.int zt0)] [(.int i_14)]))
      refine own_via (fun _ => XS.iconst X_13.here hx rfl (hb hby at_60)) ?_
      show own_Go p e below _ (T_13.setTop (mkF m 61 #[.val (.int p1), .val (.int p2), .val (.int p3), .val (.long q4), .second, .val (.ref b_1), .val (.int (1 : Int32)), .val (.int zt0)] [(.int (0 : Int32)), (.int i_14)]))
      rw [if_neg hv_15] at ezn0
      subst ezn0
      exact kz
  show own_Go p e below _ (T_13.setTop (mkF m 61 #[.val (.int p1), .val (.int p2), .val (.int p3), .val (.long q4), .second, .val (.ref b_1), .val (.int (1 : Int32)), .val (.int zt0)] [(.int zn0), (.int i_14)]))
  refine own_via (fun _ => XS.icmpNo X_13.here hx rfl (hb hby at_61) rfl (teq (own_eqz hb0 q_13_0 ezn0 : i_14 = zn0)).2) ?_
  show own_Go p e below _ (T_13.setTop (mkF m 64 #[.val (.int p1), .val (.int p2), .val (.int p3), .val (.long q4), .second, .val (.ref b_1), .val (.int (1 : Int32)), .val (.int zt0)] []))
  refine own_via (fun _ => XS.iconst X_13.here hx rfl (hb hby at_64)) ?_
  show own_Go p e below _ (T_13.setTop (mkF m 65 #[.val (.int p1), .val (.int p2), .val (.int p3), .val (.long q4), .second, .val (.ref b_1), .val (.int (1 : Int32)), .val (.int zt0)] [(.int (1 : Int32))]))
  refine own_via (fun _ => XS.goto X_13.here hx rfl (pc0 := 65) (pc' := 69) rfl (hb hby at_65) (by decide) (by decide)) ?_
  show own_Go p e below _ (T_13.setTop (mkF m 69 #[.val (.int p1), .val (.int p2), .val (.int p3), .val (.long q4), .second, .val (.ref b_1), .val (.int (1 : Int32)), .val (.int zt0)] [(.int (1 : Int32))]))
  refine own_via (fun _ => XS.istore X_13.here hx rfl (hb hby at_69) rfl (l' := #[.val (.int p1), .val (.int p2), .val (.int p3), .val (.long q4), .second, .val (.ref b_1), .val (.int (1 : Int32)), .val (.int zt0)]) rfl) ?_
  show own_Go p e below _ (T_13.setTop (mkF m 71 #[.val (.int p1), .val (.int p2), .val (.int p3), .val (.long q4), .second, .val (.ref b_1), .val (.int (1 : Int32)), .val (.int zt0)] []))
  refine own_via (fun _ => XS.aload X_13.here hx rfl (hb hby at_71) rfl rfl) ?_
  show own_Go p e below _ (T_13.setTop (mkF m 73 #[.val (.int p1), .val (.int p2), .val (.int p3), .val (.long q4), .second, .val (.ref b_1), .val (.int (1 : Int32)), .val (.int zt0)] [(.ref b_1)]))
  refine own_via (fun _ => XS.iloadN X_13.here hx rfl (hb hby at_73) rfl) ?_
  show own_Go p e below _ (T_13.setTop (mkF m 74 #[.val (.int p1), .val (.int p2), .val (.int p3), .val (.long q4), .second, .val (.ref b_1), .val (.int (1 : Int32)), .val (.int zt0)] [(.int p2), (.ref b_1)]))
  refine own_via (fun _ => XS.lloadN X_13.here hx rfl (hb hby at_74) rfl) ?_
  show own_Go p e below _ (T_13.setTop (mkF m 75 #[.val (.int p1), .val (.int p2), .val (.int p3), .val (.long q4), .second, .val (.ref b_1), .val (.int (1 : Int32)), .val (.int zt0)] [(.long q4), (.int p2), (.ref b_1)]))
  obtain ⟨_, _, ⟨T_16, L_16, k_16, n_16⟩, -, X_16, ⟨Lc_16, hQ_16, l_16, y_16, z_16⟩, st_16⟩ := Jvm.LawKit.callS X_13 hx (y := (⟨"com/example/optimistik/optimistik/engine/CommitChecksIsEmptyPinLaw", "step", "(Lcom/example/optimistik/optimistik/engine/CommitChecks;IJ)Z"⟩ : MethodName)) hown (mvT hZ (own_w hw 20 rfl)) (mvT hZ (own_w hw 21 rfl)) (mvT hZ (own_w hw 22 rfl)) (mvT hZ (own_w hw 23 rfl)) (by decide) (backOf (W := 0) (rmstep l Z a0 hw [] b_1 p2 q4 1 zt0 u0 u1 u2 u3 u4 dc kd la lc lval T_11.heap n0 Zs_11 Old_11 Cn0 (by decide) Su0 Su1 Su2 Su3 Su4 n03 n13 n23 n04 n14 n24 n34 Sdc Adc Slc hbx) hZ (own_w hw 23 rfl) (own_w hw 22 rfl) (by decide) (by decide)) (g := (mkF m 75 #[.val (.int p1), .val (.int p2), .val (.int p3), .val (.long q4), .second, .val (.ref b_1), .val (.int (1 : Int32)), .val (.int zt0)] [(.long q4), (.int p2), (.ref b_1)])) rfl (by rw [hml]; rfl) (argsL := [(.ref b_1), (.int p2), (.long q4)]) (rest := []) (lenOf pd_17 rfl) rfl (by show 2 * 0 + _ ≤ _; exact Nat.le_of_eq rfl) (hb hby at_75) (fun _ _ => ⟨rfl, e_13, (by decide : 5 + 4 ≤ _), (by decide : 20 + 17 ≤ _)⟩)
  dsimp only [Pt.U, Pt.locs, Pt.cells, Pt.slots] at X_16 l_16 y_16 z_16 st_16 hQ_16
  subst l_16 y_16 z_16
  obtain ⟨zs1, rfl, Nq_16, hz_16, Old_16, q_16_0, q_16_1⟩ := hQ_16
  have N_16 := Fr.app N_13 Nq_16
  have Zs_16 : n0 ≤ T_16.heap.size := Nat.le_trans Zs_11 hz_16
  refine own_via st_16 ?_
  show own_Go p e below _ (T_16.setTop (mkF m 78 #[.val (.int p1), .val (.int p2), .val (.int p3), .val (.long q4), .second, .val (.ref b_1), .val (.int (1 : Int32)), .val (.int zt0)] [(.int zs1)]))
  obtain ⟨zt1, ezt1⟩ : ∃ z : Int32, z = (if zs1 = (0 : Int32) then (if zt0 = (0 : Int32) then (0 : Int32) else (1 : Int32)) else (1 : Int32)) := ⟨_, rfl⟩
  refine own_seq (B := T_16.setTop (mkF m 91 #[.val (.int p1), .val (.int p2), .val (.int p3), .val (.long q4), .second, .val (.ref b_1), .val (.int (1 : Int32)), .val (.int zt0)] [(.int zt1)])) (fun kz => ?_) ?_
  · by_cases hv_17 : zs1 = (0 : Int32)
    · refine own_via (fun _ => XS.ifNo X_16.here hx rfl (hb hby at_78) rfl ((if0 _ _).trans (teq (hv_17 : zs1 = (0 : Int32))).2)) ?_
      show own_Go p e below _ (T_16.setTop (mkF m 81 #[.val (.int p1), .val (.int p2), .val (.int p3), .val (.long q4), .second, .val (.ref b_1), .val (.int (1 : Int32)), .val (.int zt0)] []))
      refine own_via (fun _ => XS.iload X_16.here hx rfl (hb hby at_81) rfl) ?_
      show own_Go p e below _ (T_16.setTop (mkF m 83 #[.val (.int p1), .val (.int p2), .val (.int p3), .val (.long q4), .second, .val (.ref b_1), .val (.int (1 : Int32)), .val (.int zt0)] [(.int zt0)]))
      by_cases hv_18 : zt0 = (0 : Int32)
      · refine own_via (fun _ => XS.ifYes X_16.here hx rfl (pc0 := 83) (pc' := 90) rfl (hb hby at_83) rfl ((if0 _ _).trans (teq (hv_18 : zt0 = (0 : Int32))).1) (by decide) (by decide)) ?_
        show own_Go p e below _ (T_16.setTop (mkF m 90 #[.val (.int p1), .val (.int p2), .val (.int p3), .val (.long q4), .second, .val (.ref b_1), .val (.int (1 : Int32)), .val (.int zt0)] []))
        refine own_via (fun _ => XS.iconst X_16.here hx rfl (hb hby at_90)) ?_
        show own_Go p e below _ (T_16.setTop (mkF m 91 #[.val (.int p1), .val (.int p2), .val (.int p3), .val (.long q4), .second, .val (.ref b_1), .val (.int (1 : Int32)), .val (.int zt0)] [(.int (0 : Int32))]))
        rw [if_pos hv_17] at ezt1
        rw [if_pos hv_18] at ezt1
        subst ezt1
        exact kz
      · refine own_via (fun _ => XS.ifNo X_16.here hx rfl (hb hby at_83) rfl ((if0 _ _).trans (feq (hv_18 : ¬ (zt0 = (0 : Int32)))).1)) ?_
        show own_Go p e below _ (T_16.setTop (mkF m 86 #[.val (.int p1), .val (.int p2), .val (.int p3), .val (.long q4), .second, .val (.ref b_1), .val (.int (1 : Int32)), .val (.int zt0)] []))
        refine own_via (fun _ => XS.iconst X_16.here hx rfl (hb hby at_86)) ?_
        show own_Go p e below _ (T_16.setTop (mkF m 87 #[.val (.int p1), .val (.int p2), .val (.int p3), .val (.long q4), .second, .val (.ref b_1), .val (.int (1 : Int32)), .val (.int zt0)] [(.int (1 : Int32))]))
        refine own_via (fun _ => XS.goto X_16.here hx rfl (pc0 := 87) (pc' := 91) rfl (hb hby at_87) (by decide) (by decide)) ?_
        show own_Go p e below _ (T_16.setTop (mkF m 91 #[.val (.int p1), .val (.int p2), .val (.int p3), .val (.long q4), .second, .val (.ref b_1), .val (.int (1 : Int32)), .val (.int zt0)] [(.int (1 : Int32))]))
        rw [if_pos hv_17] at ezt1
        rw [if_neg hv_18] at ezt1
        subst ezt1
        exact kz
    · refine own_via (fun _ => XS.ifYes X_16.here hx rfl (pc0 := 78) (pc' := 86) rfl (hb hby at_78) rfl ((if0 _ _).trans (feq (hv_17 : ¬ (zs1 = (0 : Int32)))).2) (by decide) (by decide)) ?_
      show own_Go p e below _ (T_16.setTop (mkF m 86 #[.val (.int p1), .val (.int p2), .val (.int p3), .val (.long q4), .second, .val (.ref b_1), .val (.int (1 : Int32)), .val (.int zt0)] []))
      refine own_via (fun _ => XS.iconst X_16.here hx rfl (hb hby at_86)) ?_
      show own_Go p e below _ (T_16.setTop (mkF m 87 #[.val (.int p1), .val (.int p2), .val (.int p3), .val (.long q4), .second, .val (.ref b_1), .val (.int (1 : Int32)), .val (.int zt0)] [(.int (1 : Int32))]))
      refine own_via (fun _ => XS.goto X_16.here hx rfl (pc0 := 87) (pc' := 91) rfl (hb hby at_87) (by decide) (by decide)) ?_
      show own_Go p e below _ (T_16.setTop (mkF m 91 #[.val (.int p1), .val (.int p2), .val (.int p3), .val (.long q4), .second, .val (.ref b_1), .val (.int (1 : Int32)), .val (.int zt0)] [(.int (1 : Int32))]))
      rw [if_neg hv_17] at ezt1
      subst ezt1
      exact kz
  show own_Go p e below _ (T_16.setTop (mkF m 91 #[.val (.int p1), .val (.int p2), .val (.int p3), .val (.long q4), .second, .val (.ref b_1), .val (.int (1 : Int32)), .val (.int zt0)] [(.int zt1)]))
  have hzt1 : zt1 = 0 ∨ zt1 = 1 := by rw [ezt1]; rcases q_16_0 with q | q <;> rcases hzt0 with q' | q' <;> simp [q, q']
  have Cn1 : own_CC Z T_16.heap b_1 n0 2 zt1 := by have q0 := q_16_1; have q1 : (if zs1 = 0 then zt0 else 1) = zt1 := (by rw [ezt1]; first | done | (rcases q_16_0 with q | q <;> rcases hzt0 with q' | q' <;> simp [q, q'])); rw [q1] at q0; exact q0
  have Cm1 := Cn1
  obtain ⟨rv1, sv1, iv1, Lr1, Ls1, Li1, E11, F11, F21, F31, hRd1, hSc1, hIn1, hnd1, hge1, hb1⟩ := Cm1
  refine own_via (fun _ => XS.istore X_16.here hx rfl (hb hby at_91) rfl (l' := #[.val (.int p1), .val (.int p2), .val (.int p3), .val (.long q4), .second, .val (.ref b_1), .val (.int (1 : Int32)), .val (.int zt1)]) rfl) ?_
  show own_Go p e below _ (T_16.setTop (mkF m 93 #[.val (.int p1), .val (.int p2), .val (.int p3), .val (.long q4), .second, .val (.ref b_1), .val (.int (1 : Int32)), .val (.int zt1)] []))
  refine own_via (fun _ => XS.iload X_16.here hx rfl (hb hby at_93) rfl) ?_
  show own_Go p e below _ (T_16.setTop (mkF m 95 #[.val (.int p1), .val (.int p2), .val (.int p3), .val (.long q4), .second, .val (.ref b_1), .val (.int (1 : Int32)), .val (.int zt1)] [(.int (1 : Int32))]))
  refine own_via (fun _ => XS.ifNo X_16.here hx rfl (hb hby at_95) rfl ((if0 _ _).trans (feq ((by decide) : ¬ ((1 : Int32) = (0 : Int32)))).1)) ?_
  show own_Go p e below _ (T_16.setTop (mkF m 98 #[.val (.int p1), .val (.int p2), .val (.int p3), .val (.long q4), .second, .val (.ref b_1), .val (.int (1 : Int32)), .val (.int zt1)] []))
  refine own_via (fun _ => XS.aload X_16.here hx rfl (hb hby at_98) rfl rfl) ?_
  show own_Go p e below _ (T_16.setTop (mkF m 100 #[.val (.int p1), .val (.int p2), .val (.int p3), .val (.long q4), .second, .val (.ref b_1), .val (.int (1 : Int32)), .val (.int zt1)] [(.ref b_1)]))
  obtain ⟨cq_19, kq_19, q_19a, q_19b, q_19c⟩ := isOf hZ rfl E11
  obtain ⟨_, _, ⟨T_19, L_19, k_19, n_19⟩, -, X_19, ⟨Lc_19, hQ_19, l_19, y_19, z_19⟩, st_19⟩ := X_16.virtualBack hx (y := (⟨"com/example/optimistik/optimistik/engine/CommitChecks", "isEmpty", "()Z"⟩ : MethodName)) (z := (⟨"com/example/optimistik/optimistik/engine/CommitChecks", "isEmpty", "()Z"⟩ : MethodName)) hown (mvT hZ (own_w hw 9 rfl)) (mvT hZ (own_w hw 10 rfl)) (notFace_of_selects (args := #[]) (mvT hZ (own_w hw 12 rfl))) (mvT hZ (own_w hw 12 rfl)) (mvT hZ (own_w hw 11 rfl)) (by decide) (backOf (W := 0) (rmisEmpty l Z a0 hw [] b_1 rv1 sv1 iv1 T_16.heap n0 Zs_16 F11 F21 F31 hRd1.ref hSc1.ref hIn1.ref) hZ (own_w hw 13 rfl) (own_w hw 2 rfl) (by decide) (by decide)) q_19a q_19c (g := (mkF m 100 #[.val (.int p1), .val (.int p2), .val (.int p3), .val (.long q4), .second, .val (.ref b_1), .val (.int (1 : Int32)), .val (.int zt1)] [(.ref b_1)])) rfl (by rw [hml]; rfl) (Steps.refl _) (argsL := []) (rest := []) (lenOf pd_16 rfl) rfl (by show 2 * 0 + _ ≤ _; exact Nat.le_of_eq rfl) (hb hby at_100) (fun _ _ => ⟨rfl, rfl, (by decide : 9 + 0 ≤ _), (by decide : 37 + 0 ≤ _)⟩)
  dsimp only [Pt.U, Pt.locs, Pt.cells, Pt.slots] at X_19 l_19 y_19 z_19 st_19 hQ_19
  subst l_19 y_19 z_19
  obtain ⟨i_20, rfl, Nq_19, e_19, q_19_0⟩ := hQ_19
  have N_19 := Fr.app N_16 Nq_19
  refine own_via (fun _ k => st_19.trans k) ?_
  show own_Go p e below _ (T_19.setTop (mkF m 103 #[.val (.int p1), .val (.int p2), .val (.int p3), .val (.long q4), .second, .val (.ref b_1), .val (.int (1 : Int32)), .val (.int zt1)] [(.int i_20)]))
  refine own_via (fun _ => XS.iload X_19.here hx rfl (hb hby at_103) rfl) ?_
  show own_Go p e below _ (T_19.setTop (mkF m 105 #[.val (.int p1), .val (.int p2), .val (.int p3), .val (.long q4), .second, .val (.ref b_1), .val (.int (1 : Int32)), .val (.int zt1)] [(.int zt1), (.int i_20)]))
  obtain ⟨zn1, ezn1⟩ : ∃ z : Int32, z = (if zt1 = (0 : Int32) then (1 : Int32) else (0 : Int32)) := ⟨_, rfl⟩
  refine own_seq (B := T_19.setTop (mkF m 113 #[.val (.int p1), .val (.int p2), .val (.int p3), .val (.long q4), .second, .val (.ref b_1), .val (.int (1 : Int32)), .val (.int zt1)] [(.int zn1), (.int i_20)])) (fun kz => ?_) ?_
  · by_cases hv_21 : zt1 = (0 : Int32)
    · refine own_via (fun _ => XS.ifNo X_19.here hx rfl (hb hby at_105) rfl ((if0 _ _).trans (teq (hv_21 : zt1 = (0 : Int32))).2)) ?_
      show own_Go p e below _ (T_19.setTop (mkF m 108 #[.val (.int p1), .val (.int p2), .val (.int p3), .val (.long q4), .second, .val (.ref b_1), .val (.int (1 : Int32)), .val (.int zt1)] [(.int i_20)]))
      refine own_via (fun _ => XS.iconst X_19.here hx rfl (hb hby at_108)) ?_
      show own_Go p e below _ (T_19.setTop (mkF m 109 #[.val (.int p1), .val (.int p2), .val (.int p3), .val (.long q4), .second, .val (.ref b_1), .val (.int (1 : Int32)), .val (.int zt1)] [(.int (1 : Int32)), (.int i_20)]))
      refine own_via (fun _ => XS.goto X_19.here hx rfl (pc0 := 109) (pc' := 113) rfl (hb hby at_109) (by decide) (by decide)) ?_
      show own_Go p e below _ (T_19.setTop (mkF m 113 #[.val (.int p1), .val (.int p2), .val (.int p3), .val (.long q4), .second, .val (.ref b_1), .val (.int (1 : Int32)), .val (.int zt1)] [(.int (1 : Int32)), (.int i_20)]))
      rw [if_pos hv_21] at ezn1
      subst ezn1
      exact kz
    · refine own_via (fun _ => XS.ifYes X_19.here hx rfl (pc0 := 105) (pc' := 112) rfl (hb hby at_105) rfl ((if0 _ _).trans (feq (hv_21 : ¬ (zt1 = (0 : Int32)))).2) (by decide) (by decide)) ?_
      show own_Go p e below _ (T_19.setTop (mkF m 112 #[.val (.int p1), .val (.int p2), .val (.int p3), .val (.long q4), .second, .val (.ref b_1), .val (.int (1 : Int32)), .val (.int zt1)] [(.int i_20)]))
      refine own_via (fun _ => XS.iconst X_19.here hx rfl (hb hby at_112)) ?_
      show own_Go p e below _ (T_19.setTop (mkF m 113 #[.val (.int p1), .val (.int p2), .val (.int p3), .val (.long q4), .second, .val (.ref b_1), .val (.int (1 : Int32)), .val (.int zt1)] [(.int (0 : Int32)), (.int i_20)]))
      rw [if_neg hv_21] at ezn1
      subst ezn1
      exact kz
  show own_Go p e below _ (T_19.setTop (mkF m 113 #[.val (.int p1), .val (.int p2), .val (.int p3), .val (.long q4), .second, .val (.ref b_1), .val (.int (1 : Int32)), .val (.int zt1)] [(.int zn1), (.int i_20)]))
  refine own_via (fun _ => XS.icmpNo X_19.here hx rfl (hb hby at_113) rfl (teq (own_eqz hb1 q_19_0 ezn1 : i_20 = zn1)).2) ?_
  show own_Go p e below _ (T_19.setTop (mkF m 116 #[.val (.int p1), .val (.int p2), .val (.int p3), .val (.long q4), .second, .val (.ref b_1), .val (.int (1 : Int32)), .val (.int zt1)] []))
  refine own_via (fun _ => XS.iconst X_19.here hx rfl (hb hby at_116)) ?_
  show own_Go p e below _ (T_19.setTop (mkF m 117 #[.val (.int p1), .val (.int p2), .val (.int p3), .val (.long q4), .second, .val (.ref b_1), .val (.int (1 : Int32)), .val (.int zt1)] [(.int (1 : Int32))]))
  refine own_via (fun _ => XS.goto X_19.here hx rfl (pc0 := 117) (pc' := 121) rfl (hb hby at_117) (by decide) (by decide)) ?_
  show own_Go p e below _ (T_19.setTop (mkF m 121 #[.val (.int p1), .val (.int p2), .val (.int p3), .val (.long q4), .second, .val (.ref b_1), .val (.int (1 : Int32)), .val (.int zt1)] [(.int (1 : Int32))]))
  refine own_via (fun _ => XS.istore X_19.here hx rfl (hb hby at_121) rfl (l' := #[.val (.int p1), .val (.int p2), .val (.int p3), .val (.long q4), .second, .val (.ref b_1), .val (.int (1 : Int32)), .val (.int zt1)]) rfl) ?_
  show own_Go p e below _ (T_19.setTop (mkF m 123 #[.val (.int p1), .val (.int p2), .val (.int p3), .val (.long q4), .second, .val (.ref b_1), .val (.int (1 : Int32)), .val (.int zt1)] []))
  refine own_via (fun _ => XS.aload X_19.here hx rfl (hb hby at_123) rfl rfl) ?_
  show own_Go p e below _ (T_19.setTop (mkF m 125 #[.val (.int p1), .val (.int p2), .val (.int p3), .val (.long q4), .second, .val (.ref b_1), .val (.int (1 : Int32)), .val (.int zt1)] [(.ref b_1)]))
  refine own_via (fun _ => XS.iloadN X_19.here hx rfl (hb hby at_125) rfl) ?_
  show own_Go p e below _ (T_19.setTop (mkF m 126 #[.val (.int p1), .val (.int p2), .val (.int p3), .val (.long q4), .second, .val (.ref b_1), .val (.int (1 : Int32)), .val (.int zt1)] [(.int p3), (.ref b_1)]))
  refine own_via (fun _ => XS.lloadN X_19.here hx rfl (hb hby at_126) rfl) ?_
  show own_Go p e below _ (T_19.setTop (mkF m 127 #[.val (.int p1), .val (.int p2), .val (.int p3), .val (.long q4), .second, .val (.ref b_1), .val (.int (1 : Int32)), .val (.int zt1)] [(.long q4), (.int p3), (.ref b_1)]))
  obtain ⟨_, _, ⟨T_22, L_22, k_22, n_22⟩, -, X_22, ⟨Lc_22, hQ_22, l_22, y_22, z_22⟩, st_22⟩ := Jvm.LawKit.callS X_19 hx (y := (⟨"com/example/optimistik/optimistik/engine/CommitChecksIsEmptyPinLaw", "step", "(Lcom/example/optimistik/optimistik/engine/CommitChecks;IJ)Z"⟩ : MethodName)) hown (mvT hZ (own_w hw 20 rfl)) (mvT hZ (own_w hw 21 rfl)) (mvT hZ (own_w hw 22 rfl)) (mvT hZ (own_w hw 23 rfl)) (by decide) (backOf (W := 0) (rmstep l Z a0 hw [] b_1 p3 q4 2 zt1 u0 u1 u2 u3 u4 dc kd la lc lval T_16.heap n0 Zs_16 Old_16 Cn1 (by decide) Su0 Su1 Su2 Su3 Su4 n03 n13 n23 n04 n14 n24 n34 Sdc Adc Slc hbx) hZ (own_w hw 23 rfl) (own_w hw 22 rfl) (by decide) (by decide)) (g := (mkF m 127 #[.val (.int p1), .val (.int p2), .val (.int p3), .val (.long q4), .second, .val (.ref b_1), .val (.int (1 : Int32)), .val (.int zt1)] [(.long q4), (.int p3), (.ref b_1)])) rfl (by rw [hml]; rfl) (argsL := [(.ref b_1), (.int p3), (.long q4)]) (rest := []) (lenOf pd_17 rfl) rfl (by show 2 * 0 + _ ≤ _; exact Nat.le_of_eq rfl) (hb hby at_127) (fun _ _ => ⟨rfl, e_19, (by decide : 9 + 4 ≤ _), (by decide : 37 + 17 ≤ _)⟩)
  dsimp only [Pt.U, Pt.locs, Pt.cells, Pt.slots] at X_22 l_22 y_22 z_22 st_22 hQ_22
  subst l_22 y_22 z_22
  obtain ⟨zs2, rfl, Nq_22, hz_22, Old_22, q_22_0, q_22_1⟩ := hQ_22
  have N_22 := Fr.app N_19 Nq_22
  have Zs_22 : n0 ≤ T_22.heap.size := Nat.le_trans Zs_16 hz_22
  refine own_via st_22 ?_
  show own_Go p e below _ (T_22.setTop (mkF m 130 #[.val (.int p1), .val (.int p2), .val (.int p3), .val (.long q4), .second, .val (.ref b_1), .val (.int (1 : Int32)), .val (.int zt1)] [(.int zs2)]))
  obtain ⟨zt2, ezt2⟩ : ∃ z : Int32, z = (if zs2 = (0 : Int32) then (if zt1 = (0 : Int32) then (0 : Int32) else (1 : Int32)) else (1 : Int32)) := ⟨_, rfl⟩
  refine own_seq (B := T_22.setTop (mkF m 143 #[.val (.int p1), .val (.int p2), .val (.int p3), .val (.long q4), .second, .val (.ref b_1), .val (.int (1 : Int32)), .val (.int zt1)] [(.int zt2)])) (fun kz => ?_) ?_
  · by_cases hv_23 : zs2 = (0 : Int32)
    · refine own_via (fun _ => XS.ifNo X_22.here hx rfl (hb hby at_130) rfl ((if0 _ _).trans (teq (hv_23 : zs2 = (0 : Int32))).2)) ?_
      show own_Go p e below _ (T_22.setTop (mkF m 133 #[.val (.int p1), .val (.int p2), .val (.int p3), .val (.long q4), .second, .val (.ref b_1), .val (.int (1 : Int32)), .val (.int zt1)] []))
      refine own_via (fun _ => XS.iload X_22.here hx rfl (hb hby at_133) rfl) ?_
      show own_Go p e below _ (T_22.setTop (mkF m 135 #[.val (.int p1), .val (.int p2), .val (.int p3), .val (.long q4), .second, .val (.ref b_1), .val (.int (1 : Int32)), .val (.int zt1)] [(.int zt1)]))
      by_cases hv_24 : zt1 = (0 : Int32)
      · refine own_via (fun _ => XS.ifYes X_22.here hx rfl (pc0 := 135) (pc' := 142) rfl (hb hby at_135) rfl ((if0 _ _).trans (teq (hv_24 : zt1 = (0 : Int32))).1) (by decide) (by decide)) ?_
        show own_Go p e below _ (T_22.setTop (mkF m 142 #[.val (.int p1), .val (.int p2), .val (.int p3), .val (.long q4), .second, .val (.ref b_1), .val (.int (1 : Int32)), .val (.int zt1)] []))
        refine own_via (fun _ => XS.iconst X_22.here hx rfl (hb hby at_142)) ?_
        show own_Go p e below _ (T_22.setTop (mkF m 143 #[.val (.int p1), .val (.int p2), .val (.int p3), .val (.long q4), .second, .val (.ref b_1), .val (.int (1 : Int32)), .val (.int zt1)] [(.int (0 : Int32))]))
        rw [if_pos hv_23] at ezt2
        rw [if_pos hv_24] at ezt2
        subst ezt2
        exact kz
      · refine own_via (fun _ => XS.ifNo X_22.here hx rfl (hb hby at_135) rfl ((if0 _ _).trans (feq (hv_24 : ¬ (zt1 = (0 : Int32)))).1)) ?_
        show own_Go p e below _ (T_22.setTop (mkF m 138 #[.val (.int p1), .val (.int p2), .val (.int p3), .val (.long q4), .second, .val (.ref b_1), .val (.int (1 : Int32)), .val (.int zt1)] []))
        refine own_via (fun _ => XS.iconst X_22.here hx rfl (hb hby at_138)) ?_
        show own_Go p e below _ (T_22.setTop (mkF m 139 #[.val (.int p1), .val (.int p2), .val (.int p3), .val (.long q4), .second, .val (.ref b_1), .val (.int (1 : Int32)), .val (.int zt1)] [(.int (1 : Int32))]))
        refine own_via (fun _ => XS.goto X_22.here hx rfl (pc0 := 139) (pc' := 143) rfl (hb hby at_139) (by decide) (by decide)) ?_
        show own_Go p e below _ (T_22.setTop (mkF m 143 #[.val (.int p1), .val (.int p2), .val (.int p3), .val (.long q4), .second, .val (.ref b_1), .val (.int (1 : Int32)), .val (.int zt1)] [(.int (1 : Int32))]))
        rw [if_pos hv_23] at ezt2
        rw [if_neg hv_24] at ezt2
        subst ezt2
        exact kz
    · refine own_via (fun _ => XS.ifYes X_22.here hx rfl (pc0 := 130) (pc' := 138) rfl (hb hby at_130) rfl ((if0 _ _).trans (feq (hv_23 : ¬ (zs2 = (0 : Int32)))).2) (by decide) (by decide)) ?_
      show own_Go p e below _ (T_22.setTop (mkF m 138 #[.val (.int p1), .val (.int p2), .val (.int p3), .val (.long q4), .second, .val (.ref b_1), .val (.int (1 : Int32)), .val (.int zt1)] []))
      refine own_via (fun _ => XS.iconst X_22.here hx rfl (hb hby at_138)) ?_
      show own_Go p e below _ (T_22.setTop (mkF m 139 #[.val (.int p1), .val (.int p2), .val (.int p3), .val (.long q4), .second, .val (.ref b_1), .val (.int (1 : Int32)), .val (.int zt1)] [(.int (1 : Int32))]))
      refine own_via (fun _ => XS.goto X_22.here hx rfl (pc0 := 139) (pc' := 143) rfl (hb hby at_139) (by decide) (by decide)) ?_
      show own_Go p e below _ (T_22.setTop (mkF m 143 #[.val (.int p1), .val (.int p2), .val (.int p3), .val (.long q4), .second, .val (.ref b_1), .val (.int (1 : Int32)), .val (.int zt1)] [(.int (1 : Int32))]))
      rw [if_neg hv_23] at ezt2
      subst ezt2
      exact kz
  show own_Go p e below _ (T_22.setTop (mkF m 143 #[.val (.int p1), .val (.int p2), .val (.int p3), .val (.long q4), .second, .val (.ref b_1), .val (.int (1 : Int32)), .val (.int zt1)] [(.int zt2)]))
  have hzt2 : zt2 = 0 ∨ zt2 = 1 := by rw [ezt2]; rcases q_22_0 with q | q <;> rcases hzt1 with q' | q' <;> simp [q, q']
  have Cn2 : own_CC Z T_22.heap b_1 n0 3 zt2 := by have q0 := q_22_1; have q1 : (if zs2 = 0 then zt1 else 1) = zt2 := (by rw [ezt2]; first | done | (rcases q_22_0 with q | q <;> rcases hzt1 with q' | q' <;> simp [q, q'])); rw [q1] at q0; exact q0
  have Cm2 := Cn2
  obtain ⟨rv2, sv2, iv2, Lr2, Ls2, Li2, E12, F12, F22, F32, hRd2, hSc2, hIn2, hnd2, hge2, hb2⟩ := Cm2
  refine own_via (fun _ => XS.istore X_22.here hx rfl (hb hby at_143) rfl (l' := #[.val (.int p1), .val (.int p2), .val (.int p3), .val (.long q4), .second, .val (.ref b_1), .val (.int (1 : Int32)), .val (.int zt2)]) rfl) ?_
  show own_Go p e below _ (T_22.setTop (mkF m 145 #[.val (.int p1), .val (.int p2), .val (.int p3), .val (.long q4), .second, .val (.ref b_1), .val (.int (1 : Int32)), .val (.int zt2)] []))
  refine own_via (fun _ => XS.iload X_22.here hx rfl (hb hby at_145) rfl) ?_
  show own_Go p e below _ (T_22.setTop (mkF m 147 #[.val (.int p1), .val (.int p2), .val (.int p3), .val (.long q4), .second, .val (.ref b_1), .val (.int (1 : Int32)), .val (.int zt2)] [(.int (1 : Int32))]))
  refine own_via (fun _ => XS.ifNo X_22.here hx rfl (hb hby at_147) rfl ((if0 _ _).trans (feq ((by decide) : ¬ ((1 : Int32) = (0 : Int32)))).1)) ?_
  show own_Go p e below _ (T_22.setTop (mkF m 150 #[.val (.int p1), .val (.int p2), .val (.int p3), .val (.long q4), .second, .val (.ref b_1), .val (.int (1 : Int32)), .val (.int zt2)] []))
  refine own_via (fun _ => XS.aload X_22.here hx rfl (hb hby at_150) rfl rfl) ?_
  show own_Go p e below _ (T_22.setTop (mkF m 152 #[.val (.int p1), .val (.int p2), .val (.int p3), .val (.long q4), .second, .val (.ref b_1), .val (.int (1 : Int32)), .val (.int zt2)] [(.ref b_1)]))
  obtain ⟨cq_25, kq_25, q_25a, q_25b, q_25c⟩ := isOf hZ rfl E12
  obtain ⟨_, _, ⟨T_25, L_25, k_25, n_25⟩, -, X_25, ⟨Lc_25, hQ_25, l_25, y_25, z_25⟩, st_25⟩ := X_22.virtualBack hx (y := (⟨"com/example/optimistik/optimistik/engine/CommitChecks", "isEmpty", "()Z"⟩ : MethodName)) (z := (⟨"com/example/optimistik/optimistik/engine/CommitChecks", "isEmpty", "()Z"⟩ : MethodName)) hown (mvT hZ (own_w hw 9 rfl)) (mvT hZ (own_w hw 10 rfl)) (notFace_of_selects (args := #[]) (mvT hZ (own_w hw 12 rfl))) (mvT hZ (own_w hw 12 rfl)) (mvT hZ (own_w hw 11 rfl)) (by decide) (backOf (W := 0) (rmisEmpty l Z a0 hw [] b_1 rv2 sv2 iv2 T_22.heap n0 Zs_22 F12 F22 F32 hRd2.ref hSc2.ref hIn2.ref) hZ (own_w hw 13 rfl) (own_w hw 2 rfl) (by decide) (by decide)) q_25a q_25c (g := (mkF m 152 #[.val (.int p1), .val (.int p2), .val (.int p3), .val (.long q4), .second, .val (.ref b_1), .val (.int (1 : Int32)), .val (.int zt2)] [(.ref b_1)])) rfl (by rw [hml]; rfl) (Steps.refl _) (argsL := []) (rest := []) (lenOf pd_16 rfl) rfl (by show 2 * 0 + _ ≤ _; exact Nat.le_of_eq rfl) (hb hby at_152) (fun _ _ => ⟨rfl, rfl, (by decide : 13 + 0 ≤ _), (by decide : 54 + 0 ≤ _)⟩)
  dsimp only [Pt.U, Pt.locs, Pt.cells, Pt.slots] at X_25 l_25 y_25 z_25 st_25 hQ_25
  subst l_25 y_25 z_25
  obtain ⟨i_26, rfl, Nq_25, e_25, q_25_0⟩ := hQ_25
  have N_25 := Fr.app N_22 Nq_25
  refine own_via (fun _ k => st_25.trans k) ?_
  show own_Go p e below _ (T_25.setTop (mkF m 155 #[.val (.int p1), .val (.int p2), .val (.int p3), .val (.long q4), .second, .val (.ref b_1), .val (.int (1 : Int32)), .val (.int zt2)] [(.int i_26)]))
  refine own_via (fun _ => XS.iload X_25.here hx rfl (hb hby at_155) rfl) ?_
  show own_Go p e below _ (T_25.setTop (mkF m 157 #[.val (.int p1), .val (.int p2), .val (.int p3), .val (.long q4), .second, .val (.ref b_1), .val (.int (1 : Int32)), .val (.int zt2)] [(.int zt2), (.int i_26)]))
  obtain ⟨zn2, ezn2⟩ : ∃ z : Int32, z = (if zt2 = (0 : Int32) then (1 : Int32) else (0 : Int32)) := ⟨_, rfl⟩
  refine own_seq (B := T_25.setTop (mkF m 165 #[.val (.int p1), .val (.int p2), .val (.int p3), .val (.long q4), .second, .val (.ref b_1), .val (.int (1 : Int32)), .val (.int zt2)] [(.int zn2), (.int i_26)])) (fun kz => ?_) ?_
  · by_cases hv_27 : zt2 = (0 : Int32)
    · refine own_via (fun _ => XS.ifNo X_25.here hx rfl (hb hby at_157) rfl ((if0 _ _).trans (teq (hv_27 : zt2 = (0 : Int32))).2)) ?_
      show own_Go p e below _ (T_25.setTop (mkF m 160 #[.val (.int p1), .val (.int p2), .val (.int p3), .val (.long q4), .second, .val (.ref b_1), .val (.int (1 : Int32)), .val (.int zt2)] [(.int i_26)]))
      refine own_via (fun _ => XS.iconst X_25.here hx rfl (hb hby at_160)) ?_
      show own_Go p e below _ (T_25.setTop (mkF m 161 #[.val (.int p1), .val (.int p2), .val (.int p3), .val (.long q4), .second, .val (.ref b_1), .val (.int (1 : Int32)), .val (.int zt2)] [(.int (1 : Int32)), (.int i_26)]))
      refine own_via (fun _ => XS.goto X_25.here hx rfl (pc0 := 161) (pc' := 165) rfl (hb hby at_161) (by decide) (by decide)) ?_
      show own_Go p e below _ (T_25.setTop (mkF m 165 #[.val (.int p1), .val (.int p2), .val (.int p3), .val (.long q4), .second, .val (.ref b_1), .val (.int (1 : Int32)), .val (.int zt2)] [(.int (1 : Int32)), (.int i_26)]))
      rw [if_pos hv_27] at ezn2
      subst ezn2
      exact kz
    · refine own_via (fun _ => XS.ifYes X_25.here hx rfl (pc0 := 157) (pc' := 164) rfl (hb hby at_157) rfl ((if0 _ _).trans (feq (hv_27 : ¬ (zt2 = (0 : Int32)))).2) (by decide) (by decide)) ?_
      show own_Go p e below _ (T_25.setTop (mkF m 164 #[.val (.int p1), .val (.int p2), .val (.int p3), .val (.long q4), .second, .val (.ref b_1), .val (.int (1 : Int32)), .val (.int zt2)] [(.int i_26)]))
      refine own_via (fun _ => XS.iconst X_25.here hx rfl (hb hby at_164)) ?_
      show own_Go p e below _ (T_25.setTop (mkF m 165 #[.val (.int p1), .val (.int p2), .val (.int p3), .val (.long q4), .second, .val (.ref b_1), .val (.int (1 : Int32)), .val (.int zt2)] [(.int (0 : Int32)), (.int i_26)]))
      rw [if_neg hv_27] at ezn2
      subst ezn2
      exact kz
  show own_Go p e below _ (T_25.setTop (mkF m 165 #[.val (.int p1), .val (.int p2), .val (.int p3), .val (.long q4), .second, .val (.ref b_1), .val (.int (1 : Int32)), .val (.int zt2)] [(.int zn2), (.int i_26)]))
  refine own_via (fun _ => XS.icmpNo X_25.here hx rfl (hb hby at_165) rfl (teq (own_eqz hb2 q_25_0 ezn2 : i_26 = zn2)).2) ?_
  show own_Go p e below _ (T_25.setTop (mkF m 168 #[.val (.int p1), .val (.int p2), .val (.int p3), .val (.long q4), .second, .val (.ref b_1), .val (.int (1 : Int32)), .val (.int zt2)] []))
  refine own_via (fun _ => XS.iconst X_25.here hx rfl (hb hby at_168)) ?_
  show own_Go p e below _ (T_25.setTop (mkF m 169 #[.val (.int p1), .val (.int p2), .val (.int p3), .val (.long q4), .second, .val (.ref b_1), .val (.int (1 : Int32)), .val (.int zt2)] [(.int (1 : Int32))]))
  refine own_via (fun _ => XS.goto X_25.here hx rfl (pc0 := 169) (pc' := 173) rfl (hb hby at_169) (by decide) (by decide)) ?_
  show own_Go p e below _ (T_25.setTop (mkF m 173 #[.val (.int p1), .val (.int p2), .val (.int p3), .val (.long q4), .second, .val (.ref b_1), .val (.int (1 : Int32)), .val (.int zt2)] [(.int (1 : Int32))]))
  refine own_via (fun _ => XS.istore X_25.here hx rfl (hb hby at_173) rfl (l' := #[.val (.int p1), .val (.int p2), .val (.int p3), .val (.long q4), .second, .val (.ref b_1), .val (.int (1 : Int32)), .val (.int zt2)]) rfl) ?_
  show own_Go p e below _ (T_25.setTop (mkF m 175 #[.val (.int p1), .val (.int p2), .val (.int p3), .val (.long q4), .second, .val (.ref b_1), .val (.int (1 : Int32)), .val (.int zt2)] []))
  refine own_via (fun _ => XS.iload X_25.here hx rfl (hb hby at_175) rfl) ?_
  show own_Go p e below _ (T_25.setTop (mkF m 177 #[.val (.int p1), .val (.int p2), .val (.int p3), .val (.long q4), .second, .val (.ref b_1), .val (.int (1 : Int32)), .val (.int zt2)] [(.int (1 : Int32))]))
  exact own_retv X_25 Bd.notSynchronized hx Bd.returns rfl (Or.inl ⟨rfl, (by simp), _, rfl⟩) (hb hby at_177) (by decide) (by decide) (by rw [e_25]; exact ⟨rfl, N_25, (Nat.le_trans (Nat.le_trans (Nat.le_trans K_8.1 hz_11) hz_16) hz_22), Old_22⟩)
set_option maxRecDepth 65536 in
set_option maxHeartbeats 40000000 in
theorem comes_1 {Post : Tables → Env → Array Value → State → Outcome → State → Prop} (hpost : ∀ tb e args s v u, (limb_1_1.after args s (.returned v) u = true ∧ limb_1_2.after args s (.returned v) u = true ∧ True) → FramedW s (.returned v) u (Jvm.fieldLocs frame_1_writes args s ++ Jvm.arrayLocs frame_1_arrays args s ++ Jvm.staticLocs frame_1_statics s) 32 192 → Post tb e args s (.returned v) u) :
    ArmFor flags0 classFile x code maxLocals ret World_1 tables_1 room_1 Calls_1 rest_1 Pre_1 Post := by
  intro l hfl _ _ p e ha hc hk s m args below hf hA hF happ hP
  obtain ⟨hcalls, hrest, hpre⟩ := hP
  obtain ⟨-, -, -, hnamed, -, -, -, hat⟩ := (Spec.applies_iff hf).mp happ
  obtain ⟨hg, hn⟩ := and_e (Cond.before_iff.mp (show (Jvm.Cond.and given_1 narrow_1).before args s = true from hpre))
  obtain ⟨ga0, gb0⟩ := and_e hg
  obtain ⟨ga1, gb1⟩ := and_e gb0
  obtain ⟨ga2, gb2⟩ := and_e gb1
  obtain ⟨ga3, gb3⟩ := and_e gb2
  obtain ⟨w0, w1, w2, w3, rfl⟩ : ∃ w0 w1 w2 w3 : Value, args = #[w0, w1, w2, w3] := by
    have hs : args.size = 4 := by simpa [Cond.value, given_1] using ga0
    obtain ⟨L⟩ := args
    match L, hs with
    | [w0, w1, w2, w3], _ => exact ⟨w0, w1, w2, w3, rfl⟩
  have hw := fun d (hd : d ∈ tables_1) => atoms_spec (ws := Jvm.Cond.code x code maxLocals ret :: tables_1) hat d (List.mem_cons_of_mem _ hd)
  have hfit : Fit s := fun {y c} hc i hi => by
    obtain ⟨ha, rfl⟩ := Array.getElem?_eq_some_iff.mp hc
    have q := List.all_eq_true.mp ((Array.all_eq_true_iff_forall_mem.mp hF) _ (Array.getElem_mem ha)) i (List.mem_range.mpr hi)
    simpa [Array.getElem?_eq_getElem hi] using q
  obtain ⟨i0, ei0⟩ := is_v ga1
  obtain rfl : w0 = (.int i0) := Option.some.inj ei0
  obtain ⟨i1, ei1⟩ := is_v ga2
  obtain rfl : w1 = (.int i1) := Option.some.inj ei1
  obtain ⟨i2, ei2⟩ := is_v ga3
  obtain rfl : w2 = (.int i2) := Option.some.inj ei2
  obtain ⟨i3, ei3⟩ := isL_v gb3
  obtain rfl : w3 = (.long i3) := Option.some.inj ei3
  obtain ⟨hsets, hown0⟩ := atoms_of _ (rest_1_c_eq ▸ (show rest_1_c.before _ s = true from hrest))
  obtain ⟨m0, hn⟩ := and_e hn
  obtain ⟨m1, hn⟩ := and_e hn
  obtain ⟨m2, hn⟩ := and_e hn
  obtain ⟨m3, hn⟩ := and_e hn
  obtain ⟨m4, hn⟩ := and_e hn
  obtain ⟨m5, hn⟩ := and_e hn
  obtain ⟨m6, hn⟩ := and_e hn
  obtain ⟨m7, hn⟩ := and_e hn
  obtain ⟨m8, hn⟩ := and_e hn
  obtain ⟨u0, eu0⟩ := exa_v m0
  have Su0 := Sta.start eu0 (Or.inr ⟨(own_w hw 28 rfl), (own_w hw 29 rfl)⟩)
  have ou0 : s.fieldOf? u0 "java/lang/Enum" "ordinal" "I" = some (.int (0 : Int32)) := (fld_at eu0).symm.trans (eqv_i (Term.int_eval (0 : Int32)) m2)
  obtain ⟨u1, eu1⟩ := exa_v m4
  have Su1 := Sta.start eu1 (Or.inr ⟨(own_w hw 28 rfl), (own_w hw 141 rfl)⟩)
  have ou1 : s.fieldOf? u1 "java/lang/Enum" "ordinal" "I" = some (.int (1 : Int32)) := (fld_at eu1).symm.trans (eqv_i (Term.int_eval (1 : Int32)) m8)
  obtain ⟨u2, eu2⟩ := exa_v m5
  have Su2 := Sta.start eu2 (Or.inr ⟨(own_w hw 28 rfl), (own_w hw 143 rfl)⟩)
  have ou2 : s.fieldOf? u2 "java/lang/Enum" "ordinal" "I" = some (.int (2 : Int32)) := (fld_at eu2).symm.trans (eqv_i (Term.int_eval (2 : Int32)) m6)
  obtain ⟨u3, eu3⟩ := exa_v m7
  have Su3 := Sta.start eu3 (Or.inr ⟨(own_w hw 28 rfl), (own_w hw 145 rfl)⟩)
  have ou3 : s.fieldOf? u3 "java/lang/Enum" "ordinal" "I" = some (.int (3 : Int32)) := (fld_at eu3).symm.trans (eqv_i (Term.int_eval (3 : Int32)) hn)
  obtain ⟨u4, eu4⟩ := exa_v m1
  have Su4 := Sta.start eu4 (Or.inr ⟨(own_w hw 28 rfl), (own_w hw 139 rfl)⟩)
  have ou4 : s.fieldOf? u4 "java/lang/Enum" "ordinal" "I" = some (.int (4 : Int32)) := (fld_at eu4).symm.trans (eqv_i (Term.int_eval (4 : Int32)) m3)
  have n03 : u0 ≠ u3 := fun q => absurd (Value.int.inj (Option.some.inj (ou0.symm.trans ((congrArg (fun z => s.fieldOf? z "java/lang/Enum" "ordinal" "I") q).trans ou3)))) (by decide)
  have n13 : u1 ≠ u3 := fun q => absurd (Value.int.inj (Option.some.inj (ou1.symm.trans ((congrArg (fun z => s.fieldOf? z "java/lang/Enum" "ordinal" "I") q).trans ou3)))) (by decide)
  have n23 : u2 ≠ u3 := fun q => absurd (Value.int.inj (Option.some.inj (ou2.symm.trans ((congrArg (fun z => s.fieldOf? z "java/lang/Enum" "ordinal" "I") q).trans ou3)))) (by decide)
  have n04 : u0 ≠ u4 := fun q => absurd (Value.int.inj (Option.some.inj (ou0.symm.trans ((congrArg (fun z => s.fieldOf? z "java/lang/Enum" "ordinal" "I") q).trans ou4)))) (by decide)
  have n14 : u1 ≠ u4 := fun q => absurd (Value.int.inj (Option.some.inj (ou1.symm.trans ((congrArg (fun z => s.fieldOf? z "java/lang/Enum" "ordinal" "I") q).trans ou4)))) (by decide)
  have n24 : u2 ≠ u4 := fun q => absurd (Value.int.inj (Option.some.inj (ou2.symm.trans ((congrArg (fun z => s.fieldOf? z "java/lang/Enum" "ordinal" "I") q).trans ou4)))) (by decide)
  have n34 : u3 ≠ u4 := fun q => absurd (Value.int.inj (Option.some.inj (ou3.symm.trans ((congrArg (fun z => s.fieldOf? z "java/lang/Enum" "ordinal" "I") q).trans ou4)))) (by decide)
  obtain ⟨dc, edc⟩ := arr_v (Cond.before_iff.mp (hsets _ (List.mem_of_getElem? (i := 6) rfl)))
  have Sdc := Sta.start edc (Or.inr ⟨(own_w hw 57 rfl), (hsets _ (List.mem_of_getElem? (i := 2) rfl))⟩)
  obtain ⟨cld, Ad⟩ := Arr.start edc (Cond.before_iff.mp (hsets _ (List.mem_of_getElem? (i := 6) rfl)))
  obtain ⟨qd, ld⟩ := own_len edc (Ad.fin (Vm.Alike.refl _)) (Cond.before_iff.mp (hsets _ (List.mem_of_getElem? (i := 8) rfl)))
  have Adc : Arv s s.heap dc cld.cls (.object "java/lang/Object") (0 : Int32) [] .null := Arv.start hfit Ad qd ld (by decide) rfl trivial
  obtain ⟨la, ela⟩ := arr_v (Cond.before_iff.mp (hsets _ (List.mem_of_getElem? (i := 11) rfl)))
  have Slc := Sta.start ela (Or.inl (hsets _ (List.mem_of_getElem? (i := 10) rfl)))
  obtain ⟨lc, Al⟩ := Arr.start ela (Cond.before_iff.mp (hsets _ (List.mem_of_getElem? (i := 11) rfl)))
  obtain ⟨ql, ll⟩ := own_len ela (Al.fin (Vm.Alike.refl _)) (Cond.before_iff.mp (hsets _ (List.mem_of_getElem? (i := 13) rfl)))
  have hbx : Bxs s la lc "java/lang/Long" "J" 256 (fun j => .long ((j - 128).toInt64)) := Bxs.start (fun idx => by simpa [Term.eval] using ela) Al ql ll (by decide) (Cond.before_iff.mp (hsets _ (List.mem_of_getElem? (i := 14) rfl))) (fun X j nn h => eqv_l (i2l_at (by simp [Term.eval, (back32 nn).1])) h)
  obtain ⟨n, o, h1, h2, h3, _, L, rfl, ⟨rfl, N, -, -⟩, hq⟩ := rm0 l s _ hw tables_1 i0 i1 i2 i3 u0 u1 u2 u3 u4 dc cld.cls la lc _ s.heap s.heap.size (Nat.le_refl _) (Old.start s) Su0 Su1 Su2 Su3 Su4 n03 n13 n23 n04 n14 n24 n34 Sdc Adc Slc hbx p e ha hc hk s m _ below hf ((Spec.applies_iff_loose hf).mp happ).1 ⟨rfl, State.Warmed39.refl s, rfl⟩ trivial
  have hq := wide hq
  refine ⟨n, _, h1, h2, h3, hpost _ _ _ _ _ _ ⟨Cond.after_iff.mpr rfl, Cond.after_iff.mpr (eq_i res_at (Term.int_eval (1)) rfl), trivial⟩ ⟨hq.1, hq.2.1, hq.2.2.1, (hq.2.2.2.sift fun y hy => Or.inr (N y hy)).mono (by decide) (by decide)⟩⟩
theorem main_1_1 : Claimed_1_1 := comes_1 fun _ _ _ _ _ _ h hF => ⟨h.1, hF⟩
theorem main_1_2 : Claimed_1_2 := comes_1 fun _ _ _ _ _ _ h hF => ⟨h.2.1, hF⟩
end Jvm.Pilot.@@N@@
namespace Jvm.Pilot.@@N@@
open Jvm Jvm.ClassFile Sem Op Lib Jvm.Free Jvm.Stand Jvm.Pilot.@@N@@.Jvm.D
/-! MADE BY PROGRAM (witnessworld.py) out of the Statement's table words and the real class files: 35 classes; the members and pool entries that the words name. The judged class is class 1, her method 1. -/
namespace start1
open Jvm.ClassFile
def u (s : String) : CpInfo := .utf8 (stringToUtf16 s)
/-- a pool by its gaps: so many unusable entries, then the entry; so many at the end -/
def gap : Nat → List CpInfo → List CpInfo
  | 0, r => r
  | n + 1, r => .unusable :: gap n r
def poolList (es : List (Nat × CpInfo)) (last : Nat) : List CpInfo := es.foldr (fun e r => gap e.1 (e.2 :: r)) (gap last [])
def pool (es : List (Nat × CpInfo)) (last : Nat) : Array CpInfo := ⟨poolList es last⟩
def fileOf (pool : Array CpInfo) (this : Nat) (attrs : Array Attribute := #[]) (ms : Array MethodInfo := #[]) (fl : Nat := 33) (sup : Nat := 0) (ifs : Array Nat := #[]) (fds : Array FieldInfo := #[]) : ClassFile where
  minorVersion := 0
  majorVersion := 65
  constantPool := pool
  accessFlags := fl
  thisClass := this
  superClass := sup
  interfaces := ifs
  fields := fds
  methods := ms
  attributes := attrs
def plain (name : String) (sup : Option ClassId) : Class where
  name := name
  kind := .ordinary
  loader := none
  accessFlags := 33
  super := sup
  interfaces := #[]
  cf := none
  fields := #[]
  methods := #[]
  instanceTypes := #[]
  staticTypes := #[]
  resolved := #[]
  callSites := []
  init := .initialized
  statics := none
  mirror := none

def pool0 : Array CpInfo := pool [(5, u "<init>"), (0, u "()V"), (1, .class_ 10), (1, u "java/lang/Object")] 113

def k0c0 : Code := { maxStack := 0, maxLocals := 1, code := object_method_1_code, exceptionTable := #[], attributes := #[] }
def k0m0 : Method := { name := "<init>", desc := "()V", sig := { parameters := [], returnType := none }, accessFlags := 1, code := some k0c0 }
/-- java/lang/Object -/
def k0 : Class := { plain "java/lang/Object" none with
  accessFlags := 33
  interfaces := #[]
  cf := some (fileOf pool0 8 #[] #[{ accessFlags := 1, nameIndex := 5, descriptorIndex := 6, attributes := #[] }] 33 0 #[] #[])
  fields := #[]
  methods := #[k0m0]
  instanceTypes := #[]
  staticTypes := #[]
  resolved := Array.replicate 124 none
  statics := none }

def pool1 : Array CpInfo := pool [(2, .class_ 4), (0, .nameAndType 5 6), (0, u "java/lang/Object"), (0, u "<init>"), (0, u "()V"), (0, .class_ 8), (0, u "com/example/optimistik/optimistik/engine/CommitChecks"), (0, .methodref 7 3), (0, .methodref 7 11), (0, .nameAndType 12 13), (0, u "isEmpty"), (0, u "()Z"), (0, .methodref 15 16), (0, .class_ 17), (0, .nameAndType 18 19), (0, u "com/example/optimistik/optimistik/engine/CommitChecksIsEmptyPinLaw"), (0, u "step"), (0, u "(Lcom/example/optimistik/optimistik/engine/CommitChecks;IJ)Z"), (0, .fieldref 21 22), (0, .class_ 23), (0, .nameAndType 24 25), (0, u "com/example/optimistik/optimistik/model/IsolationLevel"), (0, u "READ_UNCOMMITTED"), (0, u "Lcom/example/optimistik/optimistik/model/IsolationLevel;"), (0, .fieldref 21 27), (0, .nameAndType 28 25), (0, u "READ_COMMITTED"), (0, .fieldref 21 30), (0, .nameAndType 31 25), (0, u "SNAPSHOT"), (0, .fieldref 21 33), (0, .nameAndType 34 25), (0, u "REPEATABLE_READ"), (0, .fieldref 21 36), (0, .nameAndType 37 25), (0, u "SERIALIZABLE"), (0, .methodref 15 39), (0, .nameAndType 40 41), (0, u "level"), (0, u "(I)Lcom/example/optimistik/optimistik/model/IsolationLevel;"), (0, .methodref 7 43), (0, .nameAndType 44 45), (0, u "noteRead"), (0, u "(Lcom/example/optimistik/optimistik/engine/Version;Lcom/example/optimistik/optimistik/model/IsolationLevel;)V"), (0, .methodref 7 47), (0, .nameAndType 48 49), (0, u "noteScan"), (0, u "(Lcom/example/optimistik/optimistik/engine/EngineTable;Lcom/example/optimistik/optimistik/model/KeyRange;Ljava/util/function/Predicate;Lcom/example/optimistik/optimistik/model/IsolationLevel;)V"), (0, .methodref 51 52), (0, .class_ 53), (0, .nameAndType 54 55), (0, u "java/lang/Long"), (0, u "valueOf"), (0, u "(J)Ljava/lang/Long;"), (0, .methodref 7 57), (0, .nameAndType 58 59), (0, u "noteInsert"), (0, u "(Lcom/example/optimistik/optimistik/engine/EngineTable;Ljava/lang/Object;)V"), (2, u "law"), (0, u "(IIIJ)Z")] 3

def k1m0 : Method := { name := "<init>", desc := "()V", sig := { parameters := [], returnType := none }, accessFlags := 2, code := none }
def k1c1 : Code := { maxStack := 4, maxLocals := 8, code := code, exceptionTable := #[], attributes := #[] }
def k1m1 : Method := { name := "law", desc := "(IIIJ)Z", sig := { parameters := [.int, .int, .int, .long], returnType := some .boolean }, accessFlags := 9, code := some k1c1 }
def k1c2 : Code := { maxStack := 2, maxLocals := 1, code := method_3_code, exceptionTable := #[], attributes := #[] }
def k1m2 : Method := { name := "level", desc := "(I)Lcom/example/optimistik/optimistik/model/IsolationLevel;", sig := { parameters := [.int], returnType := some (.object "com/example/optimistik/optimistik/model/IsolationLevel") }, accessFlags := 10, code := some k1c2 }
def k1c3 : Code := { maxStack := 5, maxLocals := 7, code := method_4_code, exceptionTable := #[], attributes := #[] }
def k1m3 : Method := { name := "step", desc := "(Lcom/example/optimistik/optimistik/engine/CommitChecks;IJ)Z", sig := { parameters := [(.object "com/example/optimistik/optimistik/engine/CommitChecks"), .int, .long], returnType := some .boolean }, accessFlags := 10, code := some k1c3 }
/-- com/example/optimistik/optimistik/engine/CommitChecksIsEmptyPinLaw -/
def k1 : Class := { plain "com/example/optimistik/optimistik/engine/CommitChecksIsEmptyPinLaw" (some 0) with
  accessFlags := 49
  interfaces := #[]
  cf := some (fileOf pool1 15 #[] #[{ accessFlags := 2, nameIndex := 5, descriptorIndex := 6, attributes := #[] }, { accessFlags := 9, nameIndex := 62, descriptorIndex := 63, attributes := #[] }, { accessFlags := 10, nameIndex := 40, descriptorIndex := 41, attributes := #[] }, { accessFlags := 10, nameIndex := 18, descriptorIndex := 19, attributes := #[] }] 49 2 #[] #[])
  fields := #[]
  methods := #[k1m0, k1m1, k1m2, k1m3]
  instanceTypes := #[]
  staticTypes := #[]
  resolved := Array.replicate 67 none
  statics := none }

def pool2 : Array CpInfo := pool [(1, .methodref 2 3), (0, .class_ 4), (0, .nameAndType 5 6), (0, u "java/lang/Object"), (0, u "<init>"), (0, u "()V"), (0, .methodref 8 9), (0, .class_ 10), (0, .nameAndType 11 12), (0, u "com/example/optimistik/optimistik/engine/CommitChecks"), (0, u "checksRowsRead"), (0, u "(Lcom/example/optimistik/optimistik/model/IsolationLevel;)Z"), (0, .fieldref 8 14), (0, .nameAndType 15 16), (0, u "reads"), (0, u "Lcom/example/optimistik/optimistik/engine/IdentitySet;"), (0, .class_ 18), (0, u "com/example/optimistik/optimistik/engine/IdentitySet"), (0, .invokeDynamic 0 20), (0, .nameAndType 21 22), (0, u "applyAsInt"), (0, u "()Ljava/util/function/ToIntFunction;"), (0, .methodref 17 24), (0, .nameAndType 5 25), (0, u "(Ljava/util/function/ToIntFunction;)V"), (0, .methodref 17 27), (0, .nameAndType 28 29), (0, u "add"), (0, u "(Ljava/lang/Object;)Z"), (17, u "noteScan"), (0, u "(Lcom/example/optimistik/optimistik/engine/EngineTable;Lcom/example/optimistik/optimistik/model/KeyRange;Ljava/util/function/Predicate;Lcom/example/optimistik/optimistik/model/IsolationLevel;)V"), (0, .methodref 8 50), (0, .nameAndType 51 12), (0, u "checksRangesScanned"), (0, .fieldref 8 53), (0, .nameAndType 54 55), (0, u "scans"), (0, u "Ljava/util/List;"), (0, .class_ 57), (0, u "java/util/ArrayList"), (0, .methodref 56 3), (0, .class_ 60), (0, u "com/example/optimistik/optimistik/engine/CommitChecks$RangeRead"), (0, .methodref 59 62), (0, .nameAndType 5 63), (0, u "(Lcom/example/optimistik/optimistik/engine/EngineTable;Lcom/example/optimistik/optimistik/model/KeyRange;Ljava/util/function/Predicate;)V"), (0, .interfaceMethodref 65 27), (0, .class_ 66), (0, u "java/util/List"), (0, .fieldref 8 68), (0, .nameAndType 69 55), (0, u "inserted"), (0, .class_ 71), (0, u "com/example/optimistik/optimistik/engine/CommitChecks$RowAt"), (0, .methodref 70 73), (0, .nameAndType 5 74), (0, u "(Lcom/example/optimistik/optimistik/engine/EngineTable;Ljava/lang/Object;)V"), (28, u "()Z"), (44, .fieldref 149 150), (0, .class_ 151), (0, .nameAndType 152 153), (0, u "com/example/optimistik/optimistik/model/IsolationLevel"), (0, u "REPEATABLE_READ"), (0, u "Lcom/example/optimistik/optimistik/model/IsolationLevel;"), (0, .fieldref 149 155), (0, .nameAndType 156 153), (0, u "SERIALIZABLE"), (1, .class_ 160), (1, u "com/example/optimistik/optimistik/engine/Version"), (15, u "noteRead"), (0, u "(Lcom/example/optimistik/optimistik/engine/Version;Lcom/example/optimistik/optimistik/model/IsolationLevel;)V"), (6, u "noteInsert"), (1, u "isEmpty"), (10, .methodType 198), (0, u "(Ljava/lang/Object;)I"), (0, .methodHandle 5 200), (0, .methodref 158 201), (0, .nameAndType 202 203), (0, u "hash"), (0, u "()I"), (0, .methodType 205), (0, u "(Lcom/example/optimistik/optimistik/engine/Version;)I"), (20, .methodHandle 6 227), (0, .methodref 228 229), (0, .class_ 230), (0, .nameAndType 231 232), (0, u "java/lang/invoke/LambdaMetafactory"), (0, u "metafactory"), (0, u "(Ljava/lang/invoke/MethodHandles$Lookup;Ljava/lang/String;Ljava/lang/invoke/MethodType;Ljava/lang/invoke/MethodType;Ljava/lang/invoke/MethodHandle;Ljava/lang/invoke/MethodType;)Ljava/lang/invoke/CallSite;")] 14

def k2c0 : Code := { maxStack := 1, maxLocals := 1, code := prog_12_method_1_code, exceptionTable := #[], attributes := #[] }
def k2m0 : Method := { name := "<init>", desc := "()V", sig := { parameters := [], returnType := none }, accessFlags := 0, code := some k2c0 }
def k2c1 : Code := { maxStack := 4, maxLocals := 3, code := prog_12_method_2_code, exceptionTable := #[], attributes := #[] }
def k2m1 : Method := { name := "noteRead", desc := "(Lcom/example/optimistik/optimistik/engine/Version;Lcom/example/optimistik/optimistik/model/IsolationLevel;)V", sig := { parameters := [(.object "com/example/optimistik/optimistik/engine/Version"), (.object "com/example/optimistik/optimistik/model/IsolationLevel")], returnType := none }, accessFlags := 0, code := some k2c1 }
def k2c2 : Code := { maxStack := 6, maxLocals := 5, code := prog_12_method_4_code, exceptionTable := #[], attributes := #[] }
def k2m2 : Method := { name := "noteScan", desc := "(Lcom/example/optimistik/optimistik/engine/EngineTable;Lcom/example/optimistik/optimistik/model/KeyRange;Ljava/util/function/Predicate;Lcom/example/optimistik/optimistik/model/IsolationLevel;)V", sig := { parameters := [(.object "com/example/optimistik/optimistik/engine/EngineTable"), (.object "com/example/optimistik/optimistik/model/KeyRange"), (.object "java/util/function/Predicate"), (.object "com/example/optimistik/optimistik/model/IsolationLevel")], returnType := none }, accessFlags := 0, code := some k2c2 }
def k2c3 : Code := { maxStack := 5, maxLocals := 3, code := prog_12_method_5_code, exceptionTable := #[], attributes := #[] }
def k2m3 : Method := { name := "noteInsert", desc := "(Lcom/example/optimistik/optimistik/engine/EngineTable;Ljava/lang/Object;)V", sig := { parameters := [(.object "com/example/optimistik/optimistik/engine/EngineTable"), (.object "java/lang/Object")], returnType := none }, accessFlags := 0, code := some k2c3 }
def k2c4 : Code := { maxStack := 1, maxLocals := 1, code := prog_12_method_6_code, exceptionTable := #[], attributes := #[] }
def k2m4 : Method := { name := "isEmpty", desc := "()Z", sig := { parameters := [], returnType := some .boolean }, accessFlags := 0, code := some k2c4 }
def k2c5 : Code := { maxStack := 2, maxLocals := 1, code := prog_12_method_12_code, exceptionTable := #[], attributes := #[] }
def k2m5 : Method := { name := "checksRowsRead", desc := "(Lcom/example/optimistik/optimistik/model/IsolationLevel;)Z", sig := { parameters := [(.object "com/example/optimistik/optimistik/model/IsolationLevel")], returnType := some .boolean }, accessFlags := 10, code := some k2c5 }
def k2c6 : Code := { maxStack := 2, maxLocals := 1, code := prog_12_method_13_code, exceptionTable := #[], attributes := #[] }
def k2m6 : Method := { name := "checksRangesScanned", desc := "(Lcom/example/optimistik/optimistik/model/IsolationLevel;)Z", sig := { parameters := [(.object "com/example/optimistik/optimistik/model/IsolationLevel")], returnType := some .boolean }, accessFlags := 10, code := some k2c6 }
/-- com/example/optimistik/optimistik/engine/CommitChecks -/
def k2 : Class := { plain "com/example/optimistik/optimistik/engine/CommitChecks" (some 0) with
  accessFlags := 32
  interfaces := #[]
  cf := some (fileOf pool2 8 #[.nestMembers #[59, 70], .bootstrapMethods #[⟨226, #[197, 199, 204]⟩, ⟨0, #[]⟩, ⟨0, #[]⟩, ⟨0, #[]⟩, ⟨0, #[]⟩, ⟨0, #[]⟩, ⟨0, #[]⟩]] #[{ accessFlags := 0, nameIndex := 5, descriptorIndex := 6, attributes := #[] }, { accessFlags := 0, nameIndex := 176, descriptorIndex := 177, attributes := #[] }, { accessFlags := 0, nameIndex := 47, descriptorIndex := 48, attributes := #[] }, { accessFlags := 0, nameIndex := 184, descriptorIndex := 74, attributes := #[] }, { accessFlags := 0, nameIndex := 186, descriptorIndex := 103, attributes := #[] }, { accessFlags := 10, nameIndex := 11, descriptorIndex := 12, attributes := #[] }, { accessFlags := 10, nameIndex := 51, descriptorIndex := 12, attributes := #[] }] 32 2 #[] #[{ accessFlags := 2, nameIndex := 69, descriptorIndex := 55, attributes := #[] }, { accessFlags := 2, nameIndex := 15, descriptorIndex := 16, attributes := #[] }, { accessFlags := 2, nameIndex := 54, descriptorIndex := 55, attributes := #[] }])
  fields := #[{ name := "inserted", type := (.object "java/util/List"), accessFlags := 2, slot := 0, constantValue := 0 }, { name := "reads", type := (.object "com/example/optimistik/optimistik/engine/IdentitySet"), accessFlags := 2, slot := 1, constantValue := 0 }, { name := "scans", type := (.object "java/util/List"), accessFlags := 2, slot := 2, constantValue := 0 }]
  methods := #[k2m0, k2m1, k2m2, k2m3, k2m4, k2m5, k2m6]
  instanceTypes := #[(.object "java/util/List"), (.object "com/example/optimistik/optimistik/engine/IdentitySet"), (.object "java/util/List")]
  staticTypes := #[]
  resolved := ((((Array.replicate 247 none).set! 59 (some (.cls 27))).set! 61 (some (.method ⟨27, 0⟩))).set! 70 (some (.cls 21))).set! 72 (some (.method ⟨21, 0⟩))
  callSites := [(1, 19, .constant 3)]
  statics := none }

def pool3 : Array CpInfo := pool [(1, .class_ 2), (0, u "java/lang/constant/Constable"), (0, .class_ 4), (0, u "java/lang/Object")] 6

/-- java/lang/constant/Constable -/
def k3 : Class := { plain "java/lang/constant/Constable" (some 0) with
  accessFlags := 1537
  interfaces := #[]
  cf := some (fileOf pool3 1 #[] #[] 1537 3 #[] #[])
  fields := #[]
  methods := #[]
  instanceTypes := #[]
  staticTypes := #[]
  resolved := Array.replicate 11 none
  statics := none }

def pool4 : Array CpInfo := pool [(1, .class_ 2), (0, u "java/lang/Comparable"), (0, .class_ 4), (0, u "java/lang/Object")] 7

/-- java/lang/Comparable -/
def k4 : Class := { plain "java/lang/Comparable" (some 0) with
  accessFlags := 1537
  interfaces := #[]
  cf := some (fileOf pool4 1 #[] #[] 1537 3 #[] #[])
  fields := #[]
  methods := #[]
  instanceTypes := #[]
  staticTypes := #[]
  resolved := Array.replicate 12 none
  statics := none }

def pool5 : Array CpInfo := pool [(1, .class_ 2), (0, u "java/io/Serializable"), (0, .class_ 4), (0, u "java/lang/Object")] 2

/-- java/io/Serializable -/
def k5 : Class := { plain "java/io/Serializable" (some 0) with
  accessFlags := 1537
  interfaces := #[]
  cf := some (fileOf pool5 1 #[] #[] 1537 3 #[] #[])
  fields := #[]
  methods := #[]
  instanceTypes := #[]
  staticTypes := #[]
  resolved := Array.replicate 7 none
  statics := none }

def pool6 : Array CpInfo := pool [(2, .class_ 4), (1, u "java/lang/Enum"), (0, u "name"), (0, u "Ljava/lang/String;"), (2, u "ordinal"), (0, u "I"), (1, .class_ 14), (1, u "java/lang/Object"), (4, u "hash"), (86, .class_ 108), (1, u "java/lang/Enum$EnumDesc"), (2, .class_ 112), (0, u "java/lang/constant/Constable"), (0, .class_ 114), (0, u "java/lang/Comparable"), (0, .class_ 116), (0, u "java/io/Serializable")] 87

/-- java/lang/Enum -/
def k6 : Class := { plain "java/lang/Enum" (some 0) with
  accessFlags := 1057
  interfaces := #[3, 4, 5]
  cf := some (fileOf pool6 2 #[.nestMembers #[106]] #[] 1057 12 #[111, 113, 115] #[{ accessFlags := 18, nameIndex := 5, descriptorIndex := 6, attributes := #[] }, { accessFlags := 18, nameIndex := 9, descriptorIndex := 10, attributes := #[] }, { accessFlags := 2, nameIndex := 19, descriptorIndex := 10, attributes := #[] }])
  fields := #[{ name := "name", type := (.object "java/lang/String"), accessFlags := 18, slot := 0, constantValue := 0 }, { name := "ordinal", type := .int, accessFlags := 18, slot := 1, constantValue := 0 }, { name := "hash", type := .int, accessFlags := 2, slot := 2, constantValue := 0 }]
  methods := #[]
  instanceTypes := #[(.object "java/lang/String"), .int, .int]
  staticTypes := #[]
  resolved := Array.replicate 204 none
  statics := none }

def pool7 : Array CpInfo := pool [(1, .class_ 2), (0, u "com/example/optimistik/optimistik/model/IsolationLevel"), (2, u "READ_UNCOMMITTED"), (0, u "Lcom/example/optimistik/optimistik/model/IsolationLevel;"), (2, u "READ_COMMITTED"), (2, u "SNAPSHOT"), (2, u "REPEATABLE_READ"), (2, u "SERIALIZABLE"), (2, u "$VALUES"), (0, u "[Lcom/example/optimistik/optimistik/model/IsolationLevel;"), (6, .class_ 31), (1, u "java/lang/Enum")] 27

/-- com/example/optimistik/optimistik/model/IsolationLevel -/
def k7 : Class := { plain "com/example/optimistik/optimistik/model/IsolationLevel" (some 6) with
  accessFlags := 16433
  interfaces := #[]
  cf := some (fileOf pool7 1 #[] #[] 16433 29 #[] #[{ accessFlags := 16409, nameIndex := 5, descriptorIndex := 6, attributes := #[] }, { accessFlags := 16409, nameIndex := 9, descriptorIndex := 6, attributes := #[] }, { accessFlags := 16409, nameIndex := 12, descriptorIndex := 6, attributes := #[] }, { accessFlags := 16409, nameIndex := 15, descriptorIndex := 6, attributes := #[] }, { accessFlags := 16409, nameIndex := 18, descriptorIndex := 6, attributes := #[] }, { accessFlags := 4122, nameIndex := 21, descriptorIndex := 22, attributes := #[] }])
  fields := #[{ name := "READ_UNCOMMITTED", type := (.object "com/example/optimistik/optimistik/model/IsolationLevel"), accessFlags := 16409, slot := 0, constantValue := 0 }, { name := "READ_COMMITTED", type := (.object "com/example/optimistik/optimistik/model/IsolationLevel"), accessFlags := 16409, slot := 1, constantValue := 0 }, { name := "SNAPSHOT", type := (.object "com/example/optimistik/optimistik/model/IsolationLevel"), accessFlags := 16409, slot := 2, constantValue := 0 }, { name := "REPEATABLE_READ", type := (.object "com/example/optimistik/optimistik/model/IsolationLevel"), accessFlags := 16409, slot := 3, constantValue := 0 }, { name := "SERIALIZABLE", type := (.object "com/example/optimistik/optimistik/model/IsolationLevel"), accessFlags := 16409, slot := 4, constantValue := 0 }, { name := "$VALUES", type := (.array (.object "com/example/optimistik/optimistik/model/IsolationLevel")), accessFlags := 4122, slot := 5, constantValue := 0 }]
  methods := #[]
  instanceTypes := #[(.object "java/lang/String"), .int, .int]
  staticTypes := #[(.object "com/example/optimistik/optimistik/model/IsolationLevel"), (.object "com/example/optimistik/optimistik/model/IsolationLevel"), (.object "com/example/optimistik/optimistik/model/IsolationLevel"), (.object "com/example/optimistik/optimistik/model/IsolationLevel"), (.object "com/example/optimistik/optimistik/model/IsolationLevel"), (.array (.object "com/example/optimistik/optimistik/model/IsolationLevel"))]
  resolved := Array.replicate 59 none
  statics := some 0 }

def pool8 : Array CpInfo := pool [(1, .methodref 2 3), (0, .class_ 4), (0, .nameAndType 5 6), (0, u "java/lang/Object"), (0, u "<init>"), (0, u "()V"), (1, .class_ 10), (1, u "java/lang/Number"), (2, .class_ 14), (0, u "java/io/Serializable"), (0, u "serialVersionUID"), (0, u "J")] 20

def k8c0 : Code := { maxStack := 1, maxLocals := 1, code := jdk_18_method_1_code, exceptionTable := #[], attributes := #[] }
def k8m0 : Method := { name := "<init>", desc := "()V", sig := { parameters := [], returnType := none }, accessFlags := 1, code := some k8c0 }
/-- java/lang/Number -/
def k8 : Class := { plain "java/lang/Number" (some 0) with
  accessFlags := 1057
  interfaces := #[5]
  cf := some (fileOf pool8 8 #[] #[{ accessFlags := 1, nameIndex := 5, descriptorIndex := 6, attributes := #[] }] 1057 2 #[13] #[{ accessFlags := 26, nameIndex := 15, descriptorIndex := 16, attributes := #[] }])
  fields := #[{ name := "serialVersionUID", type := .long, accessFlags := 26, slot := 0, constantValue := 0 }]
  methods := #[k8m0]
  instanceTypes := #[]
  staticTypes := #[.long]
  resolved := Array.replicate 37 none
  statics := none }

def pool9 : Array CpInfo := pool [(1, .class_ 2), (0, u "java/lang/constant/ConstantDesc"), (0, .class_ 4), (0, u "java/lang/Object")] 32

/-- java/lang/constant/ConstantDesc -/
def k9 : Class := { plain "java/lang/constant/ConstantDesc" (some 0) with
  accessFlags := 1537
  interfaces := #[]
  cf := some (fileOf pool9 1 #[] #[] 1537 3 #[] #[])
  fields := #[]
  methods := #[]
  instanceTypes := #[]
  staticTypes := #[]
  resolved := Array.replicate 37 none
  statics := none }

def pool10 : Array CpInfo := pool [(1, .class_ 2), (0, u "java/lang/Long"), (55, .nameAndType 59 60), (0, u "<init>"), (0, u "()V"), (24, u "valueOf"), (143, u "(J)Ljava/lang/Long;"), (0, .long 18446744073709551488), (1, .long 127), (1, .fieldref 235 236), (0, .class_ 237), (0, .nameAndType 238 239), (0, u "java/lang/Long$LongCache"), (0, u "cache"), (0, u "[Ljava/lang/Long;"), (0, .methodref 1 241), (0, .nameAndType 59 242), (0, u "(J)V"), (27, .methodref 271 58), (0, .class_ 272), (0, u "java/lang/Number"), (0, .fieldref 1 274), (0, .nameAndType 275 276), (0, u "value"), (0, u "J"), (84, u "TYPE"), (0, u "Ljava/lang/Class;"), (0, .class_ 364), (0, u "java/lang/Comparable"), (0, .class_ 366), (0, u "java/lang/constant/Constable"), (0, .class_ 368), (0, u "java/lang/constant/ConstantDesc"), (0, u "MIN_VALUE"), (1, u "MAX_VALUE"), (4, u "SIZE"), (0, u "I"), (1, u "BYTES"), (1, u "serialVersionUID")] 142

def k10c0 : Code := { maxStack := 4, maxLocals := 3, code := jdk_35_method_24_code, exceptionTable := #[], attributes := #[] }
def k10m0 : Method := { name := "valueOf", desc := "(J)Ljava/lang/Long;", sig := { parameters := [.long], returnType := some (.object "java/lang/Long") }, accessFlags := 9, code := some k10c0 }
def k10c1 : Code := { maxStack := 3, maxLocals := 3, code := jdk_35_method_26_code, exceptionTable := #[], attributes := #[] }
def k10m1 : Method := { name := "<init>", desc := "(J)V", sig := { parameters := [.long], returnType := none }, accessFlags := 1, code := some k10c1 }
/-- java/lang/Long -/
def k10 : Class := { plain "java/lang/Long" (some 8) with
  accessFlags := 49
  interfaces := #[4, 3, 9]
  cf := some (fileOf pool10 1 #[.nestMembers #[235]] #[{ accessFlags := 9, nameIndex := 85, descriptorIndex := 229, attributes := #[] }, { accessFlags := 1, nameIndex := 59, descriptorIndex := 242, attributes := #[] }] 49 271 #[363, 365, 367] #[{ accessFlags := 25, nameIndex := 369, descriptorIndex := 276, attributes := #[] }, { accessFlags := 25, nameIndex := 371, descriptorIndex := 276, attributes := #[] }, { accessFlags := 25, nameIndex := 361, descriptorIndex := 362, attributes := #[] }, { accessFlags := 18, nameIndex := 275, descriptorIndex := 276, attributes := #[] }, { accessFlags := 25, nameIndex := 376, descriptorIndex := 377, attributes := #[] }, { accessFlags := 25, nameIndex := 379, descriptorIndex := 377, attributes := #[] }, { accessFlags := 26, nameIndex := 381, descriptorIndex := 276, attributes := #[] }])
  fields := #[{ name := "MIN_VALUE", type := .long, accessFlags := 25, slot := 0, constantValue := 0 }, { name := "MAX_VALUE", type := .long, accessFlags := 25, slot := 1, constantValue := 0 }, { name := "TYPE", type := (.object "java/lang/Class"), accessFlags := 25, slot := 2, constantValue := 0 }, { name := "value", type := .long, accessFlags := 18, slot := 0, constantValue := 0 }, { name := "SIZE", type := .int, accessFlags := 25, slot := 3, constantValue := 0 }, { name := "BYTES", type := .int, accessFlags := 25, slot := 4, constantValue := 0 }, { name := "serialVersionUID", type := .long, accessFlags := 26, slot := 5, constantValue := 0 }]
  methods := #[k10m0, k10m1]
  instanceTypes := #[.long]
  staticTypes := #[.long, .long, (.object "java/lang/Class"), .int, .int, .long]
  resolved := Array.replicate 524 none
  statics := none }

def pool11 : Array CpInfo := pool [(8, .class_ 10), (1, u "java/lang/Iterable"), (24, .class_ 36), (0, u "java/lang/Object")] 25

/-- java/lang/Iterable -/
def k11 : Class := { plain "java/lang/Iterable" (some 0) with
  accessFlags := 1537
  interfaces := #[]
  cf := some (fileOf pool11 8 #[] #[] 1537 35 #[] #[])
  fields := #[]
  methods := #[]
  instanceTypes := #[]
  staticTypes := #[]
  resolved := Array.replicate 62 none
  statics := none }

def pool12 : Array CpInfo := pool [(10, .class_ 12), (1, u "java/util/Collection"), (47, .class_ 61), (0, u "java/lang/Object"), (0, .class_ 63), (0, u "java/lang/Iterable")] 51

/-- java/util/Collection -/
def k12 : Class := { plain "java/util/Collection" (some 0) with
  accessFlags := 1537
  interfaces := #[11]
  cf := some (fileOf pool12 10 #[] #[] 1537 60 #[62] #[])
  fields := #[]
  methods := #[]
  instanceTypes := #[]
  staticTypes := #[]
  resolved := Array.replicate 115 none
  statics := none }

def pool13 : Array CpInfo := pool [(1, .methodref 2 3), (0, .class_ 4), (0, .nameAndType 5 6), (0, u "java/lang/Object"), (0, u "<init>"), (0, u "()V"), (1, .class_ 10), (1, u "java/util/AbstractCollection"), (66, .class_ 78), (0, u "java/util/Collection")] 81

def k13c0 : Code := { maxStack := 1, maxLocals := 1, code := jdk_22_method_1_code, exceptionTable := #[], attributes := #[] }
def k13m0 : Method := { name := "<init>", desc := "()V", sig := { parameters := [], returnType := none }, accessFlags := 4, code := some k13c0 }
/-- java/util/AbstractCollection -/
def k13 : Class := { plain "java/util/AbstractCollection" (some 0) with
  accessFlags := 1057
  interfaces := #[12]
  cf := some (fileOf pool13 8 #[] #[{ accessFlags := 4, nameIndex := 5, descriptorIndex := 6, attributes := #[] }] 1057 2 #[77] #[])
  fields := #[]
  methods := #[k13m0]
  instanceTypes := #[]
  staticTypes := #[]
  resolved := Array.replicate 160 none
  statics := none }

def pool14 : Array CpInfo := pool [(8, .class_ 10), (1, u "java/util/SequencedCollection"), (15, .class_ 27), (0, u "java/lang/Object"), (0, .class_ 29), (0, u "java/util/Collection")] 27

/-- java/util/SequencedCollection -/
def k14 : Class := { plain "java/util/SequencedCollection" (some 0) with
  accessFlags := 1537
  interfaces := #[12]
  cf := some (fileOf pool14 8 #[] #[] 1537 26 #[28] #[])
  fields := #[]
  methods := #[]
  instanceTypes := #[]
  staticTypes := #[]
  resolved := Array.replicate 57 none
  statics := none }

def pool15 : Array CpInfo := pool [(8, .class_ 10), (1, u "java/util/List"), (49, u "add"), (3, u "(Ljava/lang/Object;)Z"), (38, .class_ 104), (0, u "java/lang/Object"), (15, .class_ 121), (0, u "java/util/SequencedCollection")] 129

def k15m0 : Method := { name := "add", desc := "(Ljava/lang/Object;)Z", sig := { parameters := [(.object "java/lang/Object")], returnType := some .boolean }, accessFlags := 1025, code := none }
/-- java/util/List -/
def k15 : Class := { plain "java/util/List" (some 0) with
  accessFlags := 1537
  interfaces := #[14]
  cf := some (fileOf pool15 8 #[] #[{ accessFlags := 1025, nameIndex := 60, descriptorIndex := 64, attributes := #[] }] 1537 103 #[120] #[])
  fields := #[]
  methods := #[k15m0]
  instanceTypes := #[]
  staticTypes := #[]
  resolved := Array.replicate 251 none
  statics := none }

def pool16 : Array CpInfo := pool [(1, .methodref 2 3), (0, .class_ 4), (0, .nameAndType 5 6), (0, u "java/util/AbstractCollection"), (0, u "<init>"), (0, u "()V"), (0, .fieldref 8 9), (0, .class_ 10), (0, .nameAndType 11 12), (0, u "java/util/AbstractList"), (0, u "modCount"), (0, u "I"), (64, .class_ 78), (0, u "java/util/AbstractList$Itr"), (3, .class_ 83), (0, u "java/util/AbstractList$ListItr"), (9, .class_ 94), (0, u "java/util/AbstractList$RandomAccessSubList"), (3, .class_ 99), (0, u "java/util/AbstractList$SubList"), (33, .class_ 134), (0, u "java/util/List"), (73, .class_ 209), (0, u "java/util/AbstractList$SubList$1"), (0, .class_ 211), (0, u "java/util/AbstractList$RandomAccessSpliterator")] 6

def k16c0 : Code := { maxStack := 2, maxLocals := 1, code := jdk_39_method_1_code, exceptionTable := #[], attributes := #[] }
def k16m0 : Method := { name := "<init>", desc := "()V", sig := { parameters := [], returnType := none }, accessFlags := 4, code := some k16c0 }
/-- java/util/AbstractList -/
def k16 : Class := { plain "java/util/AbstractList" (some 13) with
  accessFlags := 1057
  interfaces := #[15]
  cf := some (fileOf pool16 8 #[.nestMembers #[93, 98, 208, 210, 82, 77]] #[{ accessFlags := 4, nameIndex := 5, descriptorIndex := 6, attributes := #[] }] 1057 2 #[133] #[{ accessFlags := 132, nameIndex := 11, descriptorIndex := 12, attributes := #[] }])
  fields := #[{ name := "modCount", type := .int, accessFlags := 132, slot := 0, constantValue := 0 }]
  methods := #[k16m0]
  instanceTypes := #[.int]
  staticTypes := #[]
  resolved := Array.replicate 218 none
  statics := none }

def pool17 : Array CpInfo := pool [(1, .class_ 2), (0, u "java/util/RandomAccess"), (0, .class_ 4), (0, u "java/lang/Object")] 2

/-- java/util/RandomAccess -/
def k17 : Class := { plain "java/util/RandomAccess" (some 0) with
  accessFlags := 1537
  interfaces := #[]
  cf := some (fileOf pool17 1 #[] #[] 1537 3 #[] #[])
  fields := #[]
  methods := #[]
  instanceTypes := #[]
  staticTypes := #[]
  resolved := Array.replicate 7 none
  statics := none }

def pool18 : Array CpInfo := pool [(1, .class_ 2), (0, u "java/lang/Cloneable"), (0, .class_ 4), (0, u "java/lang/Object")] 2

/-- java/lang/Cloneable -/
def k18 : Class := { plain "java/lang/Cloneable" (some 0) with
  accessFlags := 1537
  interfaces := #[]
  cf := some (fileOf pool18 1 #[] #[] 1537 3 #[] #[])
  fields := #[]
  methods := #[]
  instanceTypes := #[]
  staticTypes := #[]
  resolved := Array.replicate 7 none
  statics := none }

def pool19 : Array CpInfo := pool [(1, .methodref 2 3), (0, .class_ 4), (0, .nameAndType 5 6), (0, u "java/util/AbstractList"), (0, u "<init>"), (0, u "()V"), (0, .class_ 8), (0, u "java/lang/Object"), (0, .fieldref 10 11), (0, .class_ 12), (0, .nameAndType 13 14), (0, u "java/util/ArrayList"), (0, u "elementData"), (0, u "[Ljava/lang/Object;"), (2, u "EMPTY_ELEMENTDATA"), (21, .fieldref 10 40), (0, .nameAndType 41 14), (0, u "DEFAULTCAPACITY_EMPTY_ELEMENTDATA"), (5, u "()[Ljava/lang/Object;"), (0, .fieldref 10 49), (0, .nameAndType 50 51), (0, u "size"), (0, u "I"), (11, .fieldref 10 64), (0, .nameAndType 65 51), (0, u "modCount"), (3, .methodref 10 70), (0, .nameAndType 71 72), (0, u "grow"), (0, u "(I)[Ljava/lang/Object;"), (6, .methodref 80 81), (0, .class_ 82), (0, .nameAndType 83 84), (0, u "java/lang/Math"), (0, u "max"), (0, u "(II)I"), (11, u "(Ljava/lang/Object;)Z"), (32, .methodref 10 130), (0, .nameAndType 71 47), (0, .methodref 10 132), (0, .nameAndType 133 134), (0, u "add"), (0, u "(Ljava/lang/Object;[Ljava/lang/Object;I)V"), (13, .class_ 149), (0, u "java/util/List"), (112, .class_ 263), (0, u "java/util/ArrayList$ListItr"), (3, .class_ 268), (0, u "java/util/ArrayList$Itr"), (7, .class_ 277), (0, u "java/util/ArrayList$SubList"), (12, .class_ 291), (0, u "java/util/ArrayList$ArrayListSpliterator"), (37, .class_ 330), (0, u "java/util/RandomAccess"), (0, .class_ 332), (0, u "java/lang/Cloneable"), (0, .class_ 334), (0, u "java/io/Serializable"), (0, u "serialVersionUID"), (0, u "J"), (3, u "DEFAULT_CAPACITY"), (159, .class_ 501), (0, u "java/util/ArrayList$SubList$2"), (0, .class_ 503), (0, u "java/util/ArrayList$SubList$1")] 5

def k19c0 : Code := { maxStack := 2, maxLocals := 1, code := jdk_38_method_2_code, exceptionTable := #[], attributes := #[] }
def k19m0 : Method := { name := "<init>", desc := "()V", sig := { parameters := [], returnType := none }, accessFlags := 1, code := some k19c0 }
def k19c1 : Code := { maxStack := 4, maxLocals := 4, code := jdk_38_method_6_code, exceptionTable := #[], attributes := #[] }
def k19m1 : Method := { name := "grow", desc := "(I)[Ljava/lang/Object;", sig := { parameters := [.int], returnType := some (.array (.object "java/lang/Object")) }, accessFlags := 2, code := some k19c1 }
def k19c2 : Code := { maxStack := 3, maxLocals := 1, code := jdk_38_method_7_code, exceptionTable := #[], attributes := #[] }
def k19m2 : Method := { name := "grow", desc := "()[Ljava/lang/Object;", sig := { parameters := [], returnType := some (.array (.object "java/lang/Object")) }, accessFlags := 2, code := some k19c2 }
def k19c3 : Code := { maxStack := 3, maxLocals := 4, code := jdk_38_method_24_code, exceptionTable := #[], attributes := #[] }
def k19m3 : Method := { name := "add", desc := "(Ljava/lang/Object;[Ljava/lang/Object;I)V", sig := { parameters := [(.object "java/lang/Object"), (.array (.object "java/lang/Object")), .int], returnType := none }, accessFlags := 2, code := some k19c3 }
def k19c4 : Code := { maxStack := 4, maxLocals := 2, code := jdk_38_method_25_code, exceptionTable := #[], attributes := #[] }
def k19m4 : Method := { name := "add", desc := "(Ljava/lang/Object;)Z", sig := { parameters := [(.object "java/lang/Object")], returnType := some .boolean }, accessFlags := 1, code := some k19c4 }
/-- java/util/ArrayList -/
def k19 : Class := { plain "java/util/ArrayList" (some 16) with
  accessFlags := 33
  interfaces := #[15, 17, 18, 5]
  cf := some (fileOf pool19 10 #[.nestMembers #[290, 276, 500, 502, 262, 267]] #[{ accessFlags := 1, nameIndex := 5, descriptorIndex := 6, attributes := #[] }, { accessFlags := 2, nameIndex := 71, descriptorIndex := 72, attributes := #[] }, { accessFlags := 2, nameIndex := 71, descriptorIndex := 47, attributes := #[] }, { accessFlags := 2, nameIndex := 133, descriptorIndex := 134, attributes := #[] }, { accessFlags := 1, nameIndex := 133, descriptorIndex := 96, attributes := #[] }] 33 2 #[148, 329, 331, 333] #[{ accessFlags := 26, nameIndex := 335, descriptorIndex := 336, attributes := #[] }, { accessFlags := 26, nameIndex := 340, descriptorIndex := 51, attributes := #[] }, { accessFlags := 26, nameIndex := 17, descriptorIndex := 14, attributes := #[] }, { accessFlags := 26, nameIndex := 41, descriptorIndex := 14, attributes := #[] }, { accessFlags := 128, nameIndex := 13, descriptorIndex := 14, attributes := #[] }, { accessFlags := 2, nameIndex := 50, descriptorIndex := 51, attributes := #[] }])
  fields := #[{ name := "serialVersionUID", type := .long, accessFlags := 26, slot := 0, constantValue := 0 }, { name := "DEFAULT_CAPACITY", type := .int, accessFlags := 26, slot := 1, constantValue := 0 }, { name := "EMPTY_ELEMENTDATA", type := (.array (.object "java/lang/Object")), accessFlags := 26, slot := 2, constantValue := 0 }, { name := "DEFAULTCAPACITY_EMPTY_ELEMENTDATA", type := (.array (.object "java/lang/Object")), accessFlags := 26, slot := 3, constantValue := 0 }, { name := "elementData", type := (.array (.object "java/lang/Object")), accessFlags := 128, slot := 1, constantValue := 0 }, { name := "size", type := .int, accessFlags := 2, slot := 2, constantValue := 0 }]
  methods := #[k19m0, k19m1, k19m2, k19m3, k19m4]
  instanceTypes := #[.int, (.array (.object "java/lang/Object")), .int]
  staticTypes := #[.long, .int, (.array (.object "java/lang/Object")), (.array (.object "java/lang/Object"))]
  resolved := Array.replicate 509 none
  statics := some 1 }

def pool20 : Array CpInfo := pool [(1, .methodref 2 3), (0, .class_ 4), (0, .nameAndType 5 6), (0, u "java/lang/Object"), (0, u "<init>"), (0, u "()V"), (0, .class_ 8), (0, u "java/lang/Record")] 13

def k20c0 : Code := { maxStack := 1, maxLocals := 1, code := jdk_30_method_1_code, exceptionTable := #[], attributes := #[] }
def k20m0 : Method := { name := "<init>", desc := "()V", sig := { parameters := [], returnType := none }, accessFlags := 4, code := some k20c0 }
/-- java/lang/Record -/
def k20 : Class := { plain "java/lang/Record" (some 0) with
  accessFlags := 1057
  interfaces := #[]
  cf := some (fileOf pool20 7 #[] #[{ accessFlags := 4, nameIndex := 5, descriptorIndex := 6, attributes := #[] }] 1057 2 #[] #[])
  fields := #[]
  methods := #[k20m0]
  instanceTypes := #[]
  staticTypes := #[]
  resolved := Array.replicate 22 none
  statics := none }

def pool21 : Array CpInfo := pool [(1, .methodref 2 3), (0, .class_ 4), (0, .nameAndType 5 6), (0, u "java/lang/Record"), (0, u "<init>"), (0, u "()V"), (0, .fieldref 8 9), (0, .class_ 10), (0, .nameAndType 11 12), (0, u "com/example/optimistik/optimistik/engine/CommitChecks$RowAt"), (0, u "table"), (0, u "Lcom/example/optimistik/optimistik/engine/EngineTable;"), (0, .fieldref 8 14), (0, .nameAndType 15 16), (0, u "key"), (0, u "Ljava/lang/Object;"), (21, u "(Lcom/example/optimistik/optimistik/engine/EngineTable;Ljava/lang/Object;)V"), (18, .class_ 58), (0, u "com/example/optimistik/optimistik/engine/CommitChecks")] 20

def k21c0 : Code := { maxStack := 2, maxLocals := 3, code := prog_14_method_1_code, exceptionTable := #[], attributes := #[] }
def k21m0 : Method := { name := "<init>", desc := "(Lcom/example/optimistik/optimistik/engine/EngineTable;Ljava/lang/Object;)V", sig := { parameters := [(.object "com/example/optimistik/optimistik/engine/EngineTable"), (.object "java/lang/Object")], returnType := none }, accessFlags := 2, code := some k21c0 }
/-- com/example/optimistik/optimistik/engine/CommitChecks$RowAt -/
def k21 : Class := { plain "com/example/optimistik/optimistik/engine/CommitChecks$RowAt" (some 20) with
  accessFlags := 48
  interfaces := #[]
  cf := some (fileOf pool21 8 #[.nestHost 57] #[{ accessFlags := 2, nameIndex := 5, descriptorIndex := 38, attributes := #[] }] 48 2 #[] #[{ accessFlags := 18, nameIndex := 11, descriptorIndex := 12, attributes := #[] }, { accessFlags := 18, nameIndex := 15, descriptorIndex := 16, attributes := #[] }])
  fields := #[{ name := "table", type := (.object "com/example/optimistik/optimistik/engine/EngineTable"), accessFlags := 18, slot := 0, constantValue := 0 }, { name := "key", type := (.object "java/lang/Object"), accessFlags := 18, slot := 1, constantValue := 0 }]
  methods := #[k21m0]
  instanceTypes := #[(.object "com/example/optimistik/optimistik/engine/EngineTable"), (.object "java/lang/Object")]
  staticTypes := #[]
  resolved := Array.replicate 79 none
  statics := none }

def pool22 : Array CpInfo := pool [(1, .class_ 2), (0, u "java/lang/Math"), (1, .class_ 6), (1, u "java/lang/Object"), (0, u "<init>"), (0, u "()V"), (89, .class_ 100), (1, u "java/lang/Math$RandomNumberGeneratorHolder"), (71, u "negativeZeroFloatBits"), (0, u "J"), (2, u "negativeZeroDoubleBits"), (21, u "max"), (46, u "$assertionsDisabled"), (0, u "Z"), (88, u "(II)I"), (2, u "twoToTheDoubleScaleDown"), (0, u "D"), (4, u "twoToTheDoubleScaleUp"), (9, u "E"), (3, u "PI"), (2, u "TAU"), (2, u "DEGREES_TO_RADIANS"), (0, u "RADIANS_TO_DEGREES")] 94

def k22m0 : Method := { name := "<init>", desc := "()V", sig := { parameters := [], returnType := none }, accessFlags := 2, code := none }
def k22c1 : Code := { maxStack := 2, maxLocals := 2, code := jdk_29_method_65_code, exceptionTable := #[], attributes := #[] }
def k22m1 : Method := { name := "max", desc := "(II)I", sig := { parameters := [.int, .int], returnType := some .int }, accessFlags := 9, code := some k22c1 }
/-- java/lang/Math -/
def k22 : Class := { plain "java/lang/Math" (some 0) with
  accessFlags := 49
  interfaces := #[]
  cf := some (fileOf pool22 1 #[.nestMembers #[98]] #[{ accessFlags := 2, nameIndex := 7, descriptorIndex := 8, attributes := #[] }, { accessFlags := 9, nameIndex := 198, descriptorIndex := 335, attributes := #[] }] 49 4 #[] #[{ accessFlags := 25, nameIndex := 354, descriptorIndex := 339, attributes := #[] }, { accessFlags := 25, nameIndex := 358, descriptorIndex := 339, attributes := #[] }, { accessFlags := 25, nameIndex := 361, descriptorIndex := 339, attributes := #[] }, { accessFlags := 26, nameIndex := 364, descriptorIndex := 339, attributes := #[] }, { accessFlags := 26, nameIndex := 365, descriptorIndex := 339, attributes := #[] }, { accessFlags := 26, nameIndex := 172, descriptorIndex := 173, attributes := #[] }, { accessFlags := 26, nameIndex := 176, descriptorIndex := 173, attributes := #[] }, { accessFlags := 8, nameIndex := 344, descriptorIndex := 339, attributes := #[] }, { accessFlags := 8, nameIndex := 338, descriptorIndex := 339, attributes := #[] }, { accessFlags := 4120, nameIndex := 245, descriptorIndex := 246, attributes := #[] }])
  fields := #[{ name := "E", type := .double, accessFlags := 25, slot := 0, constantValue := 0 }, { name := "PI", type := .double, accessFlags := 25, slot := 1, constantValue := 0 }, { name := "TAU", type := .double, accessFlags := 25, slot := 2, constantValue := 0 }, { name := "DEGREES_TO_RADIANS", type := .double, accessFlags := 26, slot := 3, constantValue := 0 }, { name := "RADIANS_TO_DEGREES", type := .double, accessFlags := 26, slot := 4, constantValue := 0 }, { name := "negativeZeroFloatBits", type := .long, accessFlags := 26, slot := 5, constantValue := 0 }, { name := "negativeZeroDoubleBits", type := .long, accessFlags := 26, slot := 6, constantValue := 0 }, { name := "twoToTheDoubleScaleUp", type := .double, accessFlags := 8, slot := 7, constantValue := 0 }, { name := "twoToTheDoubleScaleDown", type := .double, accessFlags := 8, slot := 8, constantValue := 0 }, { name := "$assertionsDisabled", type := .boolean, accessFlags := 4120, slot := 9, constantValue := 0 }]
  methods := #[k22m0, k22m1]
  instanceTypes := #[]
  staticTypes := #[.double, .double, .double, .double, .double, .long, .long, .double, .double, .boolean]
  resolved := Array.replicate 460 none
  statics := none }

def pool23 : Array CpInfo := pool [(2, .class_ 4), (1, u "java/lang/Object"), (0, u "<init>"), (0, u "()V"), (0, .class_ 8), (0, u "java/lang/Long"), (7, .class_ 18), (1, u "java/lang/Long$LongCache"), (0, u "$assertionsDisabled"), (0, u "Z"), (8, u "archivedCache"), (0, u "[Ljava/lang/Long;"), (7, u "cache")] 24

def k23m0 : Method := { name := "<init>", desc := "()V", sig := { parameters := [], returnType := none }, accessFlags := 2, code := none }
/-- java/lang/Long$LongCache -/
def k23 : Class := { plain "java/lang/Long$LongCache" (some 0) with
  accessFlags := 48
  interfaces := #[]
  cf := some (fileOf pool23 16 #[.nestHost 7] #[{ accessFlags := 2, nameIndex := 5, descriptorIndex := 6, attributes := #[] }] 48 2 #[] #[{ accessFlags := 24, nameIndex := 38, descriptorIndex := 30, attributes := #[] }, { accessFlags := 8, nameIndex := 29, descriptorIndex := 30, attributes := #[] }, { accessFlags := 4120, nameIndex := 19, descriptorIndex := 20, attributes := #[] }])
  fields := #[{ name := "cache", type := (.array (.object "java/lang/Long")), accessFlags := 24, slot := 0, constantValue := 0 }, { name := "archivedCache", type := (.array (.object "java/lang/Long")), accessFlags := 8, slot := 1, constantValue := 0 }, { name := "$assertionsDisabled", type := .boolean, accessFlags := 4120, slot := 2, constantValue := 0 }]
  methods := #[k23m0]
  instanceTypes := #[]
  staticTypes := #[(.array (.object "java/lang/Long")), (.array (.object "java/lang/Long")), .boolean]
  resolved := Array.replicate 63 none
  statics := some 2 }

def pool24 : Array CpInfo := pool [(1, .methodref 2 3), (0, .class_ 4), (0, .nameAndType 5 6), (0, u "java/lang/Object"), (0, u "<init>"), (0, u "()V"), (0, .fieldref 8 9), (0, .class_ 10), (0, .nameAndType 11 12), (0, u "com/example/optimistik/optimistik/engine/IdentitySet"), (0, u "elements"), (0, u "[Ljava/lang/Object;"), (0, .fieldref 8 14), (0, .nameAndType 15 16), (0, u "hasher"), (0, u "Ljava/util/function/ToIntFunction;"), (0, .methodref 8 18), (0, .nameAndType 19 20), (0, u "contains"), (0, u "(Ljava/lang/Object;)Z"), (0, .methodref 8 22), (0, .nameAndType 23 24), (0, u "append"), (0, u "(Ljava/lang/Object;)V"), (0, .fieldref 8 26), (0, .nameAndType 27 28), (0, u "count"), (0, u "I"), (5, .fieldref 8 35), (0, .nameAndType 36 37), (0, u "slots"), (0, u "[I"), (29, u "SCANNED"), (2, u "SPREAD"), (2, u "(Ljava/util/function/ToIntFunction;)V"), (3, u "add")] 10

def k24c0 : Code := { maxStack := 2, maxLocals := 2, code := prog_24_method_1_code, exceptionTable := #[], attributes := #[] }
def k24m0 : Method := { name := "<init>", desc := "(Ljava/util/function/ToIntFunction;)V", sig := { parameters := [(.object "java/util/function/ToIntFunction")], returnType := none }, accessFlags := 0, code := some k24c0 }
def k24c1 : Code := { maxStack := 2, maxLocals := 3, code := prog_24_method_2_code, exceptionTable := #[], attributes := #[] }
def k24m1 : Method := { name := "add", desc := "(Ljava/lang/Object;)Z", sig := { parameters := [(.object "java/lang/Object")], returnType := some .boolean }, accessFlags := 0, code := some k24c1 }
def k24c2 : Code := { maxStack := 3, maxLocals := 5, code := prog_24_method_4_code, exceptionTable := #[], attributes := #[] }
def k24m2 : Method := { name := "contains", desc := "(Ljava/lang/Object;)Z", sig := { parameters := [(.object "java/lang/Object")], returnType := some .boolean }, accessFlags := 2, code := some k24c2 }
def k24c3 : Code := { maxStack := 4, maxLocals := 3, code := prog_24_method_5_code, exceptionTable := #[], attributes := #[] }
def k24m3 : Method := { name := "append", desc := "(Ljava/lang/Object;)V", sig := { parameters := [(.object "java/lang/Object")], returnType := none }, accessFlags := 2, code := some k24c3 }
/-- com/example/optimistik/optimistik/engine/IdentitySet -/
def k24 : Class := { plain "com/example/optimistik/optimistik/engine/IdentitySet" (some 0) with
  accessFlags := 32
  interfaces := #[]
  cf := some (fileOf pool24 8 #[] #[{ accessFlags := 0, nameIndex := 5, descriptorIndex := 73, attributes := #[] }, { accessFlags := 0, nameIndex := 77, descriptorIndex := 20, attributes := #[] }, { accessFlags := 2, nameIndex := 19, descriptorIndex := 20, attributes := #[] }, { accessFlags := 2, nameIndex := 23, descriptorIndex := 24, attributes := #[] }] 32 2 #[] #[{ accessFlags := 24, nameIndex := 67, descriptorIndex := 28, attributes := #[] }, { accessFlags := 26, nameIndex := 70, descriptorIndex := 28, attributes := #[] }, { accessFlags := 18, nameIndex := 15, descriptorIndex := 16, attributes := #[] }, { accessFlags := 2, nameIndex := 11, descriptorIndex := 12, attributes := #[] }, { accessFlags := 2, nameIndex := 27, descriptorIndex := 28, attributes := #[] }, { accessFlags := 2, nameIndex := 36, descriptorIndex := 37, attributes := #[] }])
  fields := #[{ name := "SCANNED", type := .int, accessFlags := 24, slot := 0, constantValue := 0 }, { name := "SPREAD", type := .int, accessFlags := 26, slot := 1, constantValue := 0 }, { name := "hasher", type := (.object "java/util/function/ToIntFunction"), accessFlags := 18, slot := 0, constantValue := 0 }, { name := "elements", type := (.array (.object "java/lang/Object")), accessFlags := 2, slot := 1, constantValue := 0 }, { name := "count", type := .int, accessFlags := 2, slot := 2, constantValue := 0 }, { name := "slots", type := (.array .int), accessFlags := 2, slot := 3, constantValue := 0 }]
  methods := #[k24m0, k24m1, k24m2, k24m3]
  instanceTypes := #[(.object "java/util/function/ToIntFunction"), (.array (.object "java/lang/Object")), .int, (.array .int)]
  staticTypes := #[.int, .int]
  resolved := Array.replicate 88 none
  statics := none }

def pool25 : Array CpInfo := pool [(1, .class_ 2), (0, u "java/util/function/ToIntFunction"), (0, .class_ 4), (0, u "java/lang/Object"), (0, u "applyAsInt"), (0, u "(Ljava/lang/Object;)I")] 7

def k25m0 : Method := { name := "applyAsInt", desc := "(Ljava/lang/Object;)I", sig := { parameters := [(.object "java/lang/Object")], returnType := some .int }, accessFlags := 1025, code := none }
/-- java/util/function/ToIntFunction -/
def k25 : Class := { plain "java/util/function/ToIntFunction" (some 0) with
  accessFlags := 1537
  interfaces := #[]
  cf := some (fileOf pool25 1 #[] #[{ accessFlags := 1025, nameIndex := 5, descriptorIndex := 6, attributes := #[] }] 1537 3 #[] #[])
  fields := #[]
  methods := #[k25m0]
  instanceTypes := #[]
  staticTypes := #[]
  resolved := Array.replicate 14 none
  statics := none }

def pool26 : Array CpInfo := pool [(3, .class_ 4), (0, u "com/example/optimistik/optimistik/engine/Version$OfLong"), (8, .class_ 14), (0, u "com/example/optimistik/optimistik/engine/Version$OfObject"), (4, .class_ 21), (1, u "java/lang/Object"), (2, .class_ 26), (1, u "com/example/optimistik/optimistik/engine/Version"), (0, u "chain"), (0, u "Lcom/example/optimistik/optimistik/engine/VersionChain;"), (9, u "()I"), (2, u "hash"), (0, u "I"), (2, u "creator"), (0, u "Lcom/example/optimistik/optimistik/engine/EngineTransaction;"), (2, u "older"), (0, u "Lcom/example/optimistik/optimistik/engine/Version;"), (2, u "OLDER"), (0, u "Ljava/lang/invoke/VarHandle;"), (8, u "newer"), (25, u "remover"), (2, u "REMOVER"), (30, u "CREATOR")] 77

def k26c0 : Code := { maxStack := 1, maxLocals := 1, code := ⟨#[0x2a, 0xb4, 0x00, 0x27, 0xac]⟩, exceptionTable := #[], attributes := #[] }
def k26m0 : Method := { name := "hash", desc := "()I", sig := { parameters := [], returnType := some .int }, accessFlags := 0, code := some k26c0 }
/-- com/example/optimistik/optimistik/engine/Version -/
def k26 : Class := { plain "com/example/optimistik/optimistik/engine/Version" (some 0) with
  accessFlags := 1056
  interfaces := #[]
  cf := some (fileOf pool26 24 #[.nestMembers #[3, 13]] #[{ accessFlags := 0, nameIndex := 41, descriptorIndex := 38, attributes := #[] }] 1056 19 #[] #[{ accessFlags := 26, nameIndex := 123, descriptorIndex := 54, attributes := #[] }, { accessFlags := 26, nameIndex := 53, descriptorIndex := 54, attributes := #[] }, { accessFlags := 26, nameIndex := 92, descriptorIndex := 54, attributes := #[] }, { accessFlags := 18, nameIndex := 27, descriptorIndex := 28, attributes := #[] }, { accessFlags := 18, nameIndex := 41, descriptorIndex := 42, attributes := #[] }, { accessFlags := 2, nameIndex := 45, descriptorIndex := 46, attributes := #[] }, { accessFlags := 2, nameIndex := 49, descriptorIndex := 50, attributes := #[] }, { accessFlags := 2, nameIndex := 89, descriptorIndex := 46, attributes := #[] }, { accessFlags := 2, nameIndex := 63, descriptorIndex := 50, attributes := #[] }])
  fields := #[{ name := "CREATOR", type := (.object "java/lang/invoke/VarHandle"), accessFlags := 26, slot := 0, constantValue := 0 }, { name := "OLDER", type := (.object "java/lang/invoke/VarHandle"), accessFlags := 26, slot := 1, constantValue := 0 }, { name := "REMOVER", type := (.object "java/lang/invoke/VarHandle"), accessFlags := 26, slot := 2, constantValue := 0 }, { name := "chain", type := (.object "com/example/optimistik/optimistik/engine/VersionChain"), accessFlags := 18, slot := 0, constantValue := 0 }, { name := "hash", type := .int, accessFlags := 18, slot := 1, constantValue := 0 }, { name := "creator", type := (.object "com/example/optimistik/optimistik/engine/EngineTransaction"), accessFlags := 2, slot := 2, constantValue := 0 }, { name := "older", type := (.object "com/example/optimistik/optimistik/engine/Version"), accessFlags := 2, slot := 3, constantValue := 0 }, { name := "remover", type := (.object "com/example/optimistik/optimistik/engine/EngineTransaction"), accessFlags := 2, slot := 4, constantValue := 0 }, { name := "newer", type := (.object "com/example/optimistik/optimistik/engine/Version"), accessFlags := 2, slot := 5, constantValue := 0 }]
  methods := #[k26m0]
  instanceTypes := #[(.object "com/example/optimistik/optimistik/engine/VersionChain"), .int, (.object "com/example/optimistik/optimistik/engine/EngineTransaction"), (.object "com/example/optimistik/optimistik/engine/Version"), (.object "com/example/optimistik/optimistik/engine/EngineTransaction"), (.object "com/example/optimistik/optimistik/engine/Version")]
  staticTypes := #[(.object "java/lang/invoke/VarHandle"), (.object "java/lang/invoke/VarHandle"), (.object "java/lang/invoke/VarHandle")]
  resolved := Array.replicate 201 none
  statics := none }

def pool27 : Array CpInfo := pool [(1, .methodref 2 3), (0, .class_ 4), (0, .nameAndType 5 6), (0, u "java/lang/Record"), (0, u "<init>"), (0, u "()V"), (0, .fieldref 8 9), (0, .class_ 10), (0, .nameAndType 11 12), (0, u "com/example/optimistik/optimistik/engine/CommitChecks$RangeRead"), (0, u "table"), (0, u "Lcom/example/optimistik/optimistik/engine/EngineTable;"), (0, .fieldref 8 14), (0, .nameAndType 15 16), (0, u "range"), (0, u "Lcom/example/optimistik/optimistik/model/KeyRange;"), (0, .fieldref 8 18), (0, .nameAndType 19 20), (0, u "filter"), (0, u "Ljava/util/function/Predicate;"), (87, u "(Lcom/example/optimistik/optimistik/engine/EngineTable;Lcom/example/optimistik/optimistik/model/KeyRange;Ljava/util/function/Predicate;)V"), (20, .class_ 130), (0, u "com/example/optimistik/optimistik/engine/CommitChecks")] 25

def k27c0 : Code := { maxStack := 2, maxLocals := 4, code := prog_13_method_1_code, exceptionTable := #[], attributes := #[] }
def k27m0 : Method := { name := "<init>", desc := "(Lcom/example/optimistik/optimistik/engine/EngineTable;Lcom/example/optimistik/optimistik/model/KeyRange;Ljava/util/function/Predicate;)V", sig := { parameters := [(.object "com/example/optimistik/optimistik/engine/EngineTable"), (.object "com/example/optimistik/optimistik/model/KeyRange"), (.object "java/util/function/Predicate")], returnType := none }, accessFlags := 2, code := some k27c0 }
/-- com/example/optimistik/optimistik/engine/CommitChecks$RangeRead -/
def k27 : Class := { plain "com/example/optimistik/optimistik/engine/CommitChecks$RangeRead" (some 20) with
  accessFlags := 48
  interfaces := #[]
  cf := some (fileOf pool27 8 #[.nestHost 129] #[{ accessFlags := 2, nameIndex := 5, descriptorIndex := 108, attributes := #[] }] 48 2 #[] #[{ accessFlags := 18, nameIndex := 11, descriptorIndex := 12, attributes := #[] }, { accessFlags := 18, nameIndex := 15, descriptorIndex := 16, attributes := #[] }, { accessFlags := 18, nameIndex := 19, descriptorIndex := 20, attributes := #[] }])
  fields := #[{ name := "table", type := (.object "com/example/optimistik/optimistik/engine/EngineTable"), accessFlags := 18, slot := 0, constantValue := 0 }, { name := "range", type := (.object "com/example/optimistik/optimistik/model/KeyRange"), accessFlags := 18, slot := 1, constantValue := 0 }, { name := "filter", type := (.object "java/util/function/Predicate"), accessFlags := 18, slot := 2, constantValue := 0 }]
  methods := #[k27m0]
  instanceTypes := #[(.object "com/example/optimistik/optimistik/engine/EngineTable"), (.object "com/example/optimistik/optimistik/model/KeyRange"), (.object "java/util/function/Predicate")]
  staticTypes := #[]
  resolved := Array.replicate 156 none
  statics := none }

/-- the primitive byte -/
def k28 : Class := { plain "byte" none with kind := .primitive 'B', accessFlags := 0x411 }
/-- [B -/
def k29 : Class := { plain "[B" (some 0) with kind := .array 28 .byte, interfaces := #[18, 5], accessFlags := 1041 }

/-- the primitive int -/
def k30 : Class := { plain "int" none with kind := .primitive 'I', accessFlags := 0x411 }
/-- [I -/
def k31 : Class := { plain "[I" (some 0) with kind := .array 30 .int, interfaces := #[18, 5], accessFlags := 1041 }

/-- [Ljava/lang/Long; -/
def k32 : Class := { plain "[Ljava/lang/Long;" (some 0) with kind := .array 10 (.object "java/lang/Long"), interfaces := #[18, 5], accessFlags := 1041 }

/-- [Ljava/lang/Object; -/
def k33 : Class := { plain "[Ljava/lang/Object;" (some 0) with kind := .array 0 (.object "java/lang/Object"), interfaces := #[18, 5], accessFlags := 1041 }

def classes0 : Array Class := #[k0, k1, k2, k3, k4, k5, k6, k7, k8, k9, k10, k11, k12, k13, k14, k15, k16, k17, k18, k19, k20, k21, k22, k23, k24, k25, k26, k27, k28, k29, k30, k31, k32, k33]
/-- the class that the rule has made for the site at 19 of com/example/optimistik/optimistik/engine/CommitChecks.noteRead -/
def k34 : Class := Jvm.LamKit.madeRec { classes := classes0 } "com/example/optimistik/optimistik/engine/CommitChecks" (Jvm.Lambda.Shape.mk "java/util/function/ToIntFunction" "applyAsInt" (Jvm.ClassFile.MethodDescriptor.mk ([(Jvm.ClassFile.FieldType.object "java/lang/Object")] : List Jvm.ClassFile.FieldType) (Option.some Jvm.ClassFile.FieldType.int)) ([] : List Jvm.ClassFile.FieldType) (5 : Nat) "com/example/optimistik/optimistik/engine/Version" "hash" (Jvm.ClassFile.MethodDescriptor.mk ([] : List Jvm.ClassFile.FieldType) (Option.some Jvm.ClassFile.FieldType.int)) false (Jvm.ClassFile.MethodDescriptor.mk ([(Jvm.ClassFile.FieldType.object "com/example/optimistik/optimistik/engine/Version")] : List Jvm.ClassFile.FieldType) (Option.some Jvm.ClassFile.FieldType.int))) 34

def heap : Heap := #[{ cls := 7, slots := #[.ref 263, .ref 264, .ref 265, .ref 266, .ref 267, .null], vm := .statics 7 },
  { cls := 19, slots := #[.long 0, .int 0, .ref 5, .ref 6], vm := .statics 19 },
  { cls := 23, slots := #[.ref 4, .null, .int 0], vm := .statics 23 },
  { cls := 34, slots := #[], vm := .none },
  { cls := 32, slots := #[.ref 7, .ref 8, .ref 9, .ref 10, .ref 11, .ref 12, .ref 13, .ref 14, .ref 15, .ref 16, .ref 17, .ref 18, .ref 19, .ref 20, .ref 21, .ref 22, .ref 23, .ref 24, .ref 25, .ref 26, .ref 27, .ref 28, .ref 29, .ref 30, .ref 31, .ref 32, .ref 33, .ref 34, .ref 35, .ref 36, .ref 37, .ref 38, .ref 39, .ref 40, .ref 41, .ref 42, .ref 43, .ref 44, .ref 45, .ref 46, .ref 47, .ref 48, .ref 49, .ref 50, .ref 51, .ref 52, .ref 53, .ref 54, .ref 55, .ref 56, .ref 57, .ref 58, .ref 59, .ref 60, .ref 61, .ref 62, .ref 63, .ref 64, .ref 65, .ref 66, .ref 67, .ref 68, .ref 69, .ref 70, .ref 71, .ref 72, .ref 73, .ref 74, .ref 75, .ref 76, .ref 77, .ref 78, .ref 79, .ref 80, .ref 81, .ref 82, .ref 83, .ref 84, .ref 85, .ref 86, .ref 87, .ref 88, .ref 89, .ref 90, .ref 91, .ref 92, .ref 93, .ref 94, .ref 95, .ref 96, .ref 97, .ref 98, .ref 99, .ref 100, .ref 101, .ref 102, .ref 103, .ref 104, .ref 105, .ref 106, .ref 107, .ref 108, .ref 109, .ref 110, .ref 111, .ref 112, .ref 113, .ref 114, .ref 115, .ref 116, .ref 117, .ref 118, .ref 119, .ref 120, .ref 121, .ref 122, .ref 123, .ref 124, .ref 125, .ref 126, .ref 127, .ref 128, .ref 129, .ref 130, .ref 131, .ref 132, .ref 133, .ref 134, .ref 135, .ref 136, .ref 137, .ref 138, .ref 139, .ref 140, .ref 141, .ref 142, .ref 143, .ref 144, .ref 145, .ref 146, .ref 147, .ref 148, .ref 149, .ref 150, .ref 151, .ref 152, .ref 153, .ref 154, .ref 155, .ref 156, .ref 157, .ref 158, .ref 159, .ref 160, .ref 161, .ref 162, .ref 163, .ref 164, .ref 165, .ref 166, .ref 167, .ref 168, .ref 169, .ref 170, .ref 171, .ref 172, .ref 173, .ref 174, .ref 175, .ref 176, .ref 177, .ref 178, .ref 179, .ref 180, .ref 181, .ref 182, .ref 183, .ref 184, .ref 185, .ref 186, .ref 187, .ref 188, .ref 189, .ref 190, .ref 191, .ref 192, .ref 193, .ref 194, .ref 195, .ref 196, .ref 197, .ref 198, .ref 199, .ref 200, .ref 201, .ref 202, .ref 203, .ref 204, .ref 205, .ref 206, .ref 207, .ref 208, .ref 209, .ref 210, .ref 211, .ref 212, .ref 213, .ref 214, .ref 215, .ref 216, .ref 217, .ref 218, .ref 219, .ref 220, .ref 221, .ref 222, .ref 223, .ref 224, .ref 225, .ref 226, .ref 227, .ref 228, .ref 229, .ref 230, .ref 231, .ref 232, .ref 233, .ref 234, .ref 235, .ref 236, .ref 237, .ref 238, .ref 239, .ref 240, .ref 241, .ref 242, .ref 243, .ref 244, .ref 245, .ref 246, .ref 247, .ref 248, .ref 249, .ref 250, .ref 251, .ref 252, .ref 253, .ref 254, .ref 255, .ref 256, .ref 257, .ref 258, .ref 259, .ref 260, .ref 261, .ref 262], vm := .none },
  { cls := 33, slots := #[], vm := .none },
  { cls := 33, slots := #[], vm := .none },
  { cls := 10, slots := #[.long (-128)], vm := .none },
  { cls := 10, slots := #[.long (-127)], vm := .none },
  { cls := 10, slots := #[.long (-126)], vm := .none },
  { cls := 10, slots := #[.long (-125)], vm := .none },
  { cls := 10, slots := #[.long (-124)], vm := .none },
  { cls := 10, slots := #[.long (-123)], vm := .none },
  { cls := 10, slots := #[.long (-122)], vm := .none },
  { cls := 10, slots := #[.long (-121)], vm := .none },
  { cls := 10, slots := #[.long (-120)], vm := .none },
  { cls := 10, slots := #[.long (-119)], vm := .none },
  { cls := 10, slots := #[.long (-118)], vm := .none },
  { cls := 10, slots := #[.long (-117)], vm := .none },
  { cls := 10, slots := #[.long (-116)], vm := .none },
  { cls := 10, slots := #[.long (-115)], vm := .none },
  { cls := 10, slots := #[.long (-114)], vm := .none },
  { cls := 10, slots := #[.long (-113)], vm := .none },
  { cls := 10, slots := #[.long (-112)], vm := .none },
  { cls := 10, slots := #[.long (-111)], vm := .none },
  { cls := 10, slots := #[.long (-110)], vm := .none },
  { cls := 10, slots := #[.long (-109)], vm := .none },
  { cls := 10, slots := #[.long (-108)], vm := .none },
  { cls := 10, slots := #[.long (-107)], vm := .none },
  { cls := 10, slots := #[.long (-106)], vm := .none },
  { cls := 10, slots := #[.long (-105)], vm := .none },
  { cls := 10, slots := #[.long (-104)], vm := .none },
  { cls := 10, slots := #[.long (-103)], vm := .none },
  { cls := 10, slots := #[.long (-102)], vm := .none },
  { cls := 10, slots := #[.long (-101)], vm := .none },
  { cls := 10, slots := #[.long (-100)], vm := .none },
  { cls := 10, slots := #[.long (-99)], vm := .none },
  { cls := 10, slots := #[.long (-98)], vm := .none },
  { cls := 10, slots := #[.long (-97)], vm := .none },
  { cls := 10, slots := #[.long (-96)], vm := .none },
  { cls := 10, slots := #[.long (-95)], vm := .none },
  { cls := 10, slots := #[.long (-94)], vm := .none },
  { cls := 10, slots := #[.long (-93)], vm := .none },
  { cls := 10, slots := #[.long (-92)], vm := .none },
  { cls := 10, slots := #[.long (-91)], vm := .none },
  { cls := 10, slots := #[.long (-90)], vm := .none },
  { cls := 10, slots := #[.long (-89)], vm := .none },
  { cls := 10, slots := #[.long (-88)], vm := .none },
  { cls := 10, slots := #[.long (-87)], vm := .none },
  { cls := 10, slots := #[.long (-86)], vm := .none },
  { cls := 10, slots := #[.long (-85)], vm := .none },
  { cls := 10, slots := #[.long (-84)], vm := .none },
  { cls := 10, slots := #[.long (-83)], vm := .none },
  { cls := 10, slots := #[.long (-82)], vm := .none },
  { cls := 10, slots := #[.long (-81)], vm := .none },
  { cls := 10, slots := #[.long (-80)], vm := .none },
  { cls := 10, slots := #[.long (-79)], vm := .none },
  { cls := 10, slots := #[.long (-78)], vm := .none },
  { cls := 10, slots := #[.long (-77)], vm := .none },
  { cls := 10, slots := #[.long (-76)], vm := .none },
  { cls := 10, slots := #[.long (-75)], vm := .none },
  { cls := 10, slots := #[.long (-74)], vm := .none },
  { cls := 10, slots := #[.long (-73)], vm := .none },
  { cls := 10, slots := #[.long (-72)], vm := .none },
  { cls := 10, slots := #[.long (-71)], vm := .none },
  { cls := 10, slots := #[.long (-70)], vm := .none },
  { cls := 10, slots := #[.long (-69)], vm := .none },
  { cls := 10, slots := #[.long (-68)], vm := .none },
  { cls := 10, slots := #[.long (-67)], vm := .none },
  { cls := 10, slots := #[.long (-66)], vm := .none },
  { cls := 10, slots := #[.long (-65)], vm := .none },
  { cls := 10, slots := #[.long (-64)], vm := .none },
  { cls := 10, slots := #[.long (-63)], vm := .none },
  { cls := 10, slots := #[.long (-62)], vm := .none },
  { cls := 10, slots := #[.long (-61)], vm := .none },
  { cls := 10, slots := #[.long (-60)], vm := .none },
  { cls := 10, slots := #[.long (-59)], vm := .none },
  { cls := 10, slots := #[.long (-58)], vm := .none },
  { cls := 10, slots := #[.long (-57)], vm := .none },
  { cls := 10, slots := #[.long (-56)], vm := .none },
  { cls := 10, slots := #[.long (-55)], vm := .none },
  { cls := 10, slots := #[.long (-54)], vm := .none },
  { cls := 10, slots := #[.long (-53)], vm := .none },
  { cls := 10, slots := #[.long (-52)], vm := .none },
  { cls := 10, slots := #[.long (-51)], vm := .none },
  { cls := 10, slots := #[.long (-50)], vm := .none },
  { cls := 10, slots := #[.long (-49)], vm := .none },
  { cls := 10, slots := #[.long (-48)], vm := .none },
  { cls := 10, slots := #[.long (-47)], vm := .none },
  { cls := 10, slots := #[.long (-46)], vm := .none },
  { cls := 10, slots := #[.long (-45)], vm := .none },
  { cls := 10, slots := #[.long (-44)], vm := .none },
  { cls := 10, slots := #[.long (-43)], vm := .none },
  { cls := 10, slots := #[.long (-42)], vm := .none },
  { cls := 10, slots := #[.long (-41)], vm := .none },
  { cls := 10, slots := #[.long (-40)], vm := .none },
  { cls := 10, slots := #[.long (-39)], vm := .none },
  { cls := 10, slots := #[.long (-38)], vm := .none },
  { cls := 10, slots := #[.long (-37)], vm := .none },
  { cls := 10, slots := #[.long (-36)], vm := .none },
  { cls := 10, slots := #[.long (-35)], vm := .none },
  { cls := 10, slots := #[.long (-34)], vm := .none },
  { cls := 10, slots := #[.long (-33)], vm := .none },
  { cls := 10, slots := #[.long (-32)], vm := .none },
  { cls := 10, slots := #[.long (-31)], vm := .none },
  { cls := 10, slots := #[.long (-30)], vm := .none },
  { cls := 10, slots := #[.long (-29)], vm := .none },
  { cls := 10, slots := #[.long (-28)], vm := .none },
  { cls := 10, slots := #[.long (-27)], vm := .none },
  { cls := 10, slots := #[.long (-26)], vm := .none },
  { cls := 10, slots := #[.long (-25)], vm := .none },
  { cls := 10, slots := #[.long (-24)], vm := .none },
  { cls := 10, slots := #[.long (-23)], vm := .none },
  { cls := 10, slots := #[.long (-22)], vm := .none },
  { cls := 10, slots := #[.long (-21)], vm := .none },
  { cls := 10, slots := #[.long (-20)], vm := .none },
  { cls := 10, slots := #[.long (-19)], vm := .none },
  { cls := 10, slots := #[.long (-18)], vm := .none },
  { cls := 10, slots := #[.long (-17)], vm := .none },
  { cls := 10, slots := #[.long (-16)], vm := .none },
  { cls := 10, slots := #[.long (-15)], vm := .none },
  { cls := 10, slots := #[.long (-14)], vm := .none },
  { cls := 10, slots := #[.long (-13)], vm := .none },
  { cls := 10, slots := #[.long (-12)], vm := .none },
  { cls := 10, slots := #[.long (-11)], vm := .none },
  { cls := 10, slots := #[.long (-10)], vm := .none },
  { cls := 10, slots := #[.long (-9)], vm := .none },
  { cls := 10, slots := #[.long (-8)], vm := .none },
  { cls := 10, slots := #[.long (-7)], vm := .none },
  { cls := 10, slots := #[.long (-6)], vm := .none },
  { cls := 10, slots := #[.long (-5)], vm := .none },
  { cls := 10, slots := #[.long (-4)], vm := .none },
  { cls := 10, slots := #[.long (-3)], vm := .none },
  { cls := 10, slots := #[.long (-2)], vm := .none },
  { cls := 10, slots := #[.long (-1)], vm := .none },
  { cls := 10, slots := #[.long (0)], vm := .none },
  { cls := 10, slots := #[.long (1)], vm := .none },
  { cls := 10, slots := #[.long (2)], vm := .none },
  { cls := 10, slots := #[.long (3)], vm := .none },
  { cls := 10, slots := #[.long (4)], vm := .none },
  { cls := 10, slots := #[.long (5)], vm := .none },
  { cls := 10, slots := #[.long (6)], vm := .none },
  { cls := 10, slots := #[.long (7)], vm := .none },
  { cls := 10, slots := #[.long (8)], vm := .none },
  { cls := 10, slots := #[.long (9)], vm := .none },
  { cls := 10, slots := #[.long (10)], vm := .none },
  { cls := 10, slots := #[.long (11)], vm := .none },
  { cls := 10, slots := #[.long (12)], vm := .none },
  { cls := 10, slots := #[.long (13)], vm := .none },
  { cls := 10, slots := #[.long (14)], vm := .none },
  { cls := 10, slots := #[.long (15)], vm := .none },
  { cls := 10, slots := #[.long (16)], vm := .none },
  { cls := 10, slots := #[.long (17)], vm := .none },
  { cls := 10, slots := #[.long (18)], vm := .none },
  { cls := 10, slots := #[.long (19)], vm := .none },
  { cls := 10, slots := #[.long (20)], vm := .none },
  { cls := 10, slots := #[.long (21)], vm := .none },
  { cls := 10, slots := #[.long (22)], vm := .none },
  { cls := 10, slots := #[.long (23)], vm := .none },
  { cls := 10, slots := #[.long (24)], vm := .none },
  { cls := 10, slots := #[.long (25)], vm := .none },
  { cls := 10, slots := #[.long (26)], vm := .none },
  { cls := 10, slots := #[.long (27)], vm := .none },
  { cls := 10, slots := #[.long (28)], vm := .none },
  { cls := 10, slots := #[.long (29)], vm := .none },
  { cls := 10, slots := #[.long (30)], vm := .none },
  { cls := 10, slots := #[.long (31)], vm := .none },
  { cls := 10, slots := #[.long (32)], vm := .none },
  { cls := 10, slots := #[.long (33)], vm := .none },
  { cls := 10, slots := #[.long (34)], vm := .none },
  { cls := 10, slots := #[.long (35)], vm := .none },
  { cls := 10, slots := #[.long (36)], vm := .none },
  { cls := 10, slots := #[.long (37)], vm := .none },
  { cls := 10, slots := #[.long (38)], vm := .none },
  { cls := 10, slots := #[.long (39)], vm := .none },
  { cls := 10, slots := #[.long (40)], vm := .none },
  { cls := 10, slots := #[.long (41)], vm := .none },
  { cls := 10, slots := #[.long (42)], vm := .none },
  { cls := 10, slots := #[.long (43)], vm := .none },
  { cls := 10, slots := #[.long (44)], vm := .none },
  { cls := 10, slots := #[.long (45)], vm := .none },
  { cls := 10, slots := #[.long (46)], vm := .none },
  { cls := 10, slots := #[.long (47)], vm := .none },
  { cls := 10, slots := #[.long (48)], vm := .none },
  { cls := 10, slots := #[.long (49)], vm := .none },
  { cls := 10, slots := #[.long (50)], vm := .none },
  { cls := 10, slots := #[.long (51)], vm := .none },
  { cls := 10, slots := #[.long (52)], vm := .none },
  { cls := 10, slots := #[.long (53)], vm := .none },
  { cls := 10, slots := #[.long (54)], vm := .none },
  { cls := 10, slots := #[.long (55)], vm := .none },
  { cls := 10, slots := #[.long (56)], vm := .none },
  { cls := 10, slots := #[.long (57)], vm := .none },
  { cls := 10, slots := #[.long (58)], vm := .none },
  { cls := 10, slots := #[.long (59)], vm := .none },
  { cls := 10, slots := #[.long (60)], vm := .none },
  { cls := 10, slots := #[.long (61)], vm := .none },
  { cls := 10, slots := #[.long (62)], vm := .none },
  { cls := 10, slots := #[.long (63)], vm := .none },
  { cls := 10, slots := #[.long (64)], vm := .none },
  { cls := 10, slots := #[.long (65)], vm := .none },
  { cls := 10, slots := #[.long (66)], vm := .none },
  { cls := 10, slots := #[.long (67)], vm := .none },
  { cls := 10, slots := #[.long (68)], vm := .none },
  { cls := 10, slots := #[.long (69)], vm := .none },
  { cls := 10, slots := #[.long (70)], vm := .none },
  { cls := 10, slots := #[.long (71)], vm := .none },
  { cls := 10, slots := #[.long (72)], vm := .none },
  { cls := 10, slots := #[.long (73)], vm := .none },
  { cls := 10, slots := #[.long (74)], vm := .none },
  { cls := 10, slots := #[.long (75)], vm := .none },
  { cls := 10, slots := #[.long (76)], vm := .none },
  { cls := 10, slots := #[.long (77)], vm := .none },
  { cls := 10, slots := #[.long (78)], vm := .none },
  { cls := 10, slots := #[.long (79)], vm := .none },
  { cls := 10, slots := #[.long (80)], vm := .none },
  { cls := 10, slots := #[.long (81)], vm := .none },
  { cls := 10, slots := #[.long (82)], vm := .none },
  { cls := 10, slots := #[.long (83)], vm := .none },
  { cls := 10, slots := #[.long (84)], vm := .none },
  { cls := 10, slots := #[.long (85)], vm := .none },
  { cls := 10, slots := #[.long (86)], vm := .none },
  { cls := 10, slots := #[.long (87)], vm := .none },
  { cls := 10, slots := #[.long (88)], vm := .none },
  { cls := 10, slots := #[.long (89)], vm := .none },
  { cls := 10, slots := #[.long (90)], vm := .none },
  { cls := 10, slots := #[.long (91)], vm := .none },
  { cls := 10, slots := #[.long (92)], vm := .none },
  { cls := 10, slots := #[.long (93)], vm := .none },
  { cls := 10, slots := #[.long (94)], vm := .none },
  { cls := 10, slots := #[.long (95)], vm := .none },
  { cls := 10, slots := #[.long (96)], vm := .none },
  { cls := 10, slots := #[.long (97)], vm := .none },
  { cls := 10, slots := #[.long (98)], vm := .none },
  { cls := 10, slots := #[.long (99)], vm := .none },
  { cls := 10, slots := #[.long (100)], vm := .none },
  { cls := 10, slots := #[.long (101)], vm := .none },
  { cls := 10, slots := #[.long (102)], vm := .none },
  { cls := 10, slots := #[.long (103)], vm := .none },
  { cls := 10, slots := #[.long (104)], vm := .none },
  { cls := 10, slots := #[.long (105)], vm := .none },
  { cls := 10, slots := #[.long (106)], vm := .none },
  { cls := 10, slots := #[.long (107)], vm := .none },
  { cls := 10, slots := #[.long (108)], vm := .none },
  { cls := 10, slots := #[.long (109)], vm := .none },
  { cls := 10, slots := #[.long (110)], vm := .none },
  { cls := 10, slots := #[.long (111)], vm := .none },
  { cls := 10, slots := #[.long (112)], vm := .none },
  { cls := 10, slots := #[.long (113)], vm := .none },
  { cls := 10, slots := #[.long (114)], vm := .none },
  { cls := 10, slots := #[.long (115)], vm := .none },
  { cls := 10, slots := #[.long (116)], vm := .none },
  { cls := 10, slots := #[.long (117)], vm := .none },
  { cls := 10, slots := #[.long (118)], vm := .none },
  { cls := 10, slots := #[.long (119)], vm := .none },
  { cls := 10, slots := #[.long (120)], vm := .none },
  { cls := 10, slots := #[.long (121)], vm := .none },
  { cls := 10, slots := #[.long (122)], vm := .none },
  { cls := 10, slots := #[.long (123)], vm := .none },
  { cls := 10, slots := #[.long (124)], vm := .none },
  { cls := 10, slots := #[.long (125)], vm := .none },
  { cls := 10, slots := #[.long (126)], vm := .none },
  { cls := 10, slots := #[.long (127)], vm := .none },
  { cls := 7, slots := #[.null, .int 0, .int 0], vm := .none },
  { cls := 7, slots := #[.null, .int 1, .int 0], vm := .none },
  { cls := 7, slots := #[.null, .int 2, .int 0], vm := .none },
  { cls := 7, slots := #[.null, .int 3, .int 0], vm := .none },
  { cls := 7, slots := #[.null, .int 4, .int 0], vm := .none }]
def classes : Array Class := #[k0, k1, k2, k3, k4, k5, k6, k7, k8, k9, k10, k11, k12, k13, k14, k15, k16, k17, k18, k19, k20, k21, k22, k23, k24, k25, k26, k27, k28, k29, k30, k31, k32, k33, k34]
def interned : List (Array UInt16 × Addr) := []
def slotsUsed : Nat := 540
def theMethod : MethodId := ⟨1, 1⟩
def args0 : Array Value := #[.int 5, .int 6, .int 7, .long 3]
def aboutOver (below : List Frame) : State where
  vm := { classes := classes, interned := interned.toArray }
  heap := heap
  slotsUsed := slotsUsed
  threads := #[{ frames := .invoking theMethod args0 :: below }]
def below0 : List Frame := [.native { method := ⟨0, 0⟩, args := #[] }]
def about1 : State := aboutOver below0
def p0 : Program := .bare "" "" ""
def e0 : Env := launch0.env 0 0 0
theorem w_frames : about1.frames = Frame.invoking theMethod args0 :: below0 := rfl
set_option maxRecDepth 65536 in
theorem w_args : argsFit about1.vm theMethod args0 = true := by decide +kernel
set_option maxRecDepth 65536 in
theorem w_heap : heapFits about1 = true := by decide +kernel
set_option maxRecDepth 65536 in
theorem w_runnable : about1.curStatus? = some .runnable := by decide +kernel
set_option maxRecDepth 65536 in
theorem w_alone : about1.alone = true := by decide +kernel
set_option maxRecDepth 65536 in
theorem w_named : about1.methodNamed? x = some theMethod := by decide +kernel
set_option maxRecDepth 65536 in
theorem w_hears : about1.hears theMethod below0 = true := by decide +kernel
set_option maxRecDepth 65536 in
theorem w_ripe : about1.ripe theMethod args0 below0 = true := by decide +kernel
theorem w_running : about1.status = .running := rfl
set_option maxRecDepth 65536 in
theorem w_room : about1.hasRoom e0.platform room_1 = true :=
  launch0.hasRoom_least _ room_1 (by decide +kernel) (by decide +kernel) (by decide +kernel) (by decide +kernel) (by decide +kernel) (by decide +kernel)
theorem allAtoms_all (ts : List Jvm.Cond) (a : Array Jvm.Value) (st : Jvm.State) : (allAtoms ts).before a st = ts.all (fun c => c.before a st) := by
  induction ts with
  | nil => rfl
  | cons c t ih =>
    show (Jvm.Cond.and c (allAtoms t)).before a st = _
    rw [Jvm.Cond.before_and, ih, List.all_cons]
def words1 : List Jvm.Cond := Jvm.Cond.code x code maxLocals ret :: tables_1
/-- a 'code' word, met by the world's own term for the bytes: nothing is compared byte by byte -/
theorem code_word {y : MethodName} {bytes : ByteArray} {mx : Nat} {rt : Option FieldType} {a : Array Value} {s : State} {m : MethodId} {meth : Method} {c : Code} (h1 : s.methodNamed? y = some m) (h2 : s.vm.method? m = some meth) (h3 : meth.code = some c) (h4 : c.code = bytes)
    (h5 : (c.maxLocals == mx && c.exceptionTable.isEmpty && decide (c.maxStack ≤ mostOperands) && decide (meth.sig.returnType = rt) && !meth.locks && decide (parseMethodDescriptor y.desc = some meth.sig)) = true) : (Jvm.Cond.code y bytes mx rt).before a s = true := by
  simp only [Bool.and_eq_true, beq_iff_eq, Bool.not_eq_true', decide_eq_true_eq] at h5
  obtain ⟨⟨⟨⟨⟨g1, g2⟩, g3⟩, g4⟩, g5⟩, g6⟩ := h5
  simp [Cond.before, Cond.holds, Cond.value, h1, h2, h3, h4, g1, g2, g3, g4, g5, g6]
def isCode : Jvm.Cond → Bool
  | .code _ _ _ _ => true
  | _ => false
theorem all_split {L : List Jvm.Cond} {P : Jvm.Cond → Bool} (h1 : L.all (fun c => isCode c || P c) = true) (h2 : ∀ c ∈ L.filter isCode, P c = true) : L.all P = true := by
  refine List.all_eq_true.mpr fun c hc => ?_
  have h := List.all_eq_true.mp h1 c hc
  rcases Bool.eq_false_or_eq_true (isCode c) with hi | hi
  · exact h2 c (List.mem_filter.mpr ⟨hc, hi⟩)
  · simpa [hi] using h
set_option maxRecDepth 65536 in
theorem w_c0 : (Jvm.Cond.code x code maxLocals ret).before args0 about1 = true := code_word (m := ⟨1, 1⟩) (meth := k1m1) (c := k1c1) (by decide +kernel) rfl rfl rfl (by decide +kernel)
set_option maxRecDepth 65536 in
theorem w_c1 : (Jvm.Cond.code ({ cls := "com/example/optimistik/optimistik/engine/CommitChecks", name := "<init>", desc := "()V" } : Jvm.MethodName) prog_12_method_1_code (1 : Nat) (Option.none : Option Jvm.ClassFile.FieldType)).before args0 about1 = true := code_word (m := ⟨2, 0⟩) (meth := k2m0) (c := k2c0) (by decide +kernel) rfl rfl rfl (by decide +kernel)
set_option maxRecDepth 65536 in
theorem w_c2 : (Jvm.Cond.code ({ cls := "java/lang/Object", name := "<init>", desc := "()V" } : Jvm.MethodName) object_method_1_code (1 : Nat) (Option.none : Option Jvm.ClassFile.FieldType)).before args0 about1 = true := code_word (m := ⟨0, 0⟩) (meth := k0m0) (c := k0c0) (by decide +kernel) rfl rfl rfl (by decide +kernel)
set_option maxRecDepth 65536 in
theorem w_c3 : (Jvm.Cond.code ({ cls := "com/example/optimistik/optimistik/engine/CommitChecks", name := "isEmpty", desc := "()Z" } : Jvm.MethodName) prog_12_method_6_code (1 : Nat) (Option.some Jvm.ClassFile.FieldType.boolean)).before args0 about1 = true := code_word (m := ⟨2, 4⟩) (meth := k2m4) (c := k2c4) (by decide +kernel) rfl rfl rfl (by decide +kernel)
set_option maxRecDepth 65536 in
theorem w_c4 : (Jvm.Cond.code ({ cls := "com/example/optimistik/optimistik/engine/CommitChecksIsEmptyPinLaw", name := "step", desc := "(Lcom/example/optimistik/optimistik/engine/CommitChecks;IJ)Z" } : Jvm.MethodName) method_4_code (7 : Nat) (Option.some Jvm.ClassFile.FieldType.boolean)).before args0 about1 = true := code_word (m := ⟨1, 3⟩) (meth := k1m3) (c := k1c3) (by decide +kernel) rfl rfl rfl (by decide +kernel)
set_option maxRecDepth 65536 in
theorem w_c5 : (Jvm.Cond.code ({ cls := "com/example/optimistik/optimistik/engine/CommitChecksIsEmptyPinLaw", name := "level", desc := "(I)Lcom/example/optimistik/optimistik/model/IsolationLevel;" } : Jvm.MethodName) method_3_code (1 : Nat) (Option.some (Jvm.ClassFile.FieldType.object "com/example/optimistik/optimistik/model/IsolationLevel"))).before args0 about1 = true := code_word (m := ⟨1, 2⟩) (meth := k1m2) (c := k1c2) (by decide +kernel) rfl rfl rfl (by decide +kernel)
set_option maxRecDepth 65536 in
theorem w_c6 : (Jvm.Cond.code ({ cls := "java/lang/Long", name := "valueOf", desc := "(J)Ljava/lang/Long;" } : Jvm.MethodName) jdk_35_method_24_code (3 : Nat) (Option.some (Jvm.ClassFile.FieldType.object "java/lang/Long"))).before args0 about1 = true := code_word (m := ⟨10, 0⟩) (meth := k10m0) (c := k10c0) (by decide +kernel) rfl rfl rfl (by decide +kernel)
set_option maxRecDepth 65536 in
theorem w_c7 : (Jvm.Cond.code ({ cls := "java/lang/Long", name := "<init>", desc := "(J)V" } : Jvm.MethodName) jdk_35_method_26_code (3 : Nat) (Option.none : Option Jvm.ClassFile.FieldType)).before args0 about1 = true := code_word (m := ⟨10, 1⟩) (meth := k10m1) (c := k10c1) (by decide +kernel) rfl rfl rfl (by decide +kernel)
set_option maxRecDepth 65536 in
theorem w_c8 : (Jvm.Cond.code ({ cls := "java/lang/Number", name := "<init>", desc := "()V" } : Jvm.MethodName) jdk_18_method_1_code (1 : Nat) (Option.none : Option Jvm.ClassFile.FieldType)).before args0 about1 = true := code_word (m := ⟨8, 0⟩) (meth := k8m0) (c := k8c0) (by decide +kernel) rfl rfl rfl (by decide +kernel)
set_option maxRecDepth 65536 in
theorem w_c9 : (Jvm.Cond.code ({ cls := "com/example/optimistik/optimistik/engine/CommitChecks", name := "noteInsert", desc := "(Lcom/example/optimistik/optimistik/engine/EngineTable;Ljava/lang/Object;)V" } : Jvm.MethodName) prog_12_method_5_code (3 : Nat) (Option.none : Option Jvm.ClassFile.FieldType)).before args0 about1 = true := code_word (m := ⟨2, 3⟩) (meth := k2m3) (c := k2c3) (by decide +kernel) rfl rfl rfl (by decide +kernel)
set_option maxRecDepth 65536 in
theorem w_c10 : (Jvm.Cond.code ({ cls := "java/util/ArrayList", name := "<init>", desc := "()V" } : Jvm.MethodName) jdk_38_method_2_code (1 : Nat) (Option.none : Option Jvm.ClassFile.FieldType)).before args0 about1 = true := code_word (m := ⟨19, 0⟩) (meth := k19m0) (c := k19c0) (by decide +kernel) rfl rfl rfl (by decide +kernel)
set_option maxRecDepth 65536 in
theorem w_c11 : (Jvm.Cond.code ({ cls := "java/util/AbstractList", name := "<init>", desc := "()V" } : Jvm.MethodName) jdk_39_method_1_code (1 : Nat) (Option.none : Option Jvm.ClassFile.FieldType)).before args0 about1 = true := code_word (m := ⟨16, 0⟩) (meth := k16m0) (c := k16c0) (by decide +kernel) rfl rfl rfl (by decide +kernel)
set_option maxRecDepth 65536 in
theorem w_c12 : (Jvm.Cond.code ({ cls := "java/util/AbstractCollection", name := "<init>", desc := "()V" } : Jvm.MethodName) jdk_22_method_1_code (1 : Nat) (Option.none : Option Jvm.ClassFile.FieldType)).before args0 about1 = true := code_word (m := ⟨13, 0⟩) (meth := k13m0) (c := k13c0) (by decide +kernel) rfl rfl rfl (by decide +kernel)
set_option maxRecDepth 65536 in
theorem w_c13 : (Jvm.Cond.code ({ cls := "com/example/optimistik/optimistik/engine/CommitChecks$RowAt", name := "<init>", desc := "(Lcom/example/optimistik/optimistik/engine/EngineTable;Ljava/lang/Object;)V" } : Jvm.MethodName) prog_14_method_1_code (3 : Nat) (Option.none : Option Jvm.ClassFile.FieldType)).before args0 about1 = true := code_word (m := ⟨21, 0⟩) (meth := k21m0) (c := k21c0) (by decide +kernel) rfl rfl rfl (by decide +kernel)
set_option maxRecDepth 65536 in
theorem w_c14 : (Jvm.Cond.code ({ cls := "java/lang/Record", name := "<init>", desc := "()V" } : Jvm.MethodName) jdk_30_method_1_code (1 : Nat) (Option.none : Option Jvm.ClassFile.FieldType)).before args0 about1 = true := code_word (m := ⟨20, 0⟩) (meth := k20m0) (c := k20c0) (by decide +kernel) rfl rfl rfl (by decide +kernel)
set_option maxRecDepth 65536 in
theorem w_c15 : (Jvm.Cond.code ({ cls := "java/util/ArrayList", name := "add", desc := "(Ljava/lang/Object;)Z" } : Jvm.MethodName) jdk_38_method_25_code (2 : Nat) (Option.some Jvm.ClassFile.FieldType.boolean)).before args0 about1 = true := code_word (m := ⟨19, 4⟩) (meth := k19m4) (c := k19c4) (by decide +kernel) rfl rfl rfl (by decide +kernel)
set_option maxRecDepth 65536 in
theorem w_c16 : (Jvm.Cond.code ({ cls := "java/util/ArrayList", name := "add", desc := "(Ljava/lang/Object;[Ljava/lang/Object;I)V" } : Jvm.MethodName) jdk_38_method_24_code (4 : Nat) (Option.none : Option Jvm.ClassFile.FieldType)).before args0 about1 = true := code_word (m := ⟨19, 3⟩) (meth := k19m3) (c := k19c3) (by decide +kernel) rfl rfl rfl (by decide +kernel)
set_option maxRecDepth 65536 in
theorem w_c17 : (Jvm.Cond.code ({ cls := "java/util/ArrayList", name := "grow", desc := "()[Ljava/lang/Object;" } : Jvm.MethodName) jdk_38_method_7_code (1 : Nat) (Option.some (Jvm.ClassFile.FieldType.array (Jvm.ClassFile.FieldType.object "java/lang/Object")))).before args0 about1 = true := code_word (m := ⟨19, 2⟩) (meth := k19m2) (c := k19c2) (by decide +kernel) rfl rfl rfl (by decide +kernel)
set_option maxRecDepth 65536 in
theorem w_c18 : (Jvm.Cond.code ({ cls := "java/util/ArrayList", name := "grow", desc := "(I)[Ljava/lang/Object;" } : Jvm.MethodName) jdk_38_method_6_code (4 : Nat) (Option.some (Jvm.ClassFile.FieldType.array (Jvm.ClassFile.FieldType.object "java/lang/Object")))).before args0 about1 = true := code_word (m := ⟨19, 1⟩) (meth := k19m1) (c := k19c1) (by decide +kernel) rfl rfl rfl (by decide +kernel)
set_option maxRecDepth 65536 in
theorem w_c19 : (Jvm.Cond.code ({ cls := "java/lang/Math", name := "max", desc := "(II)I" } : Jvm.MethodName) jdk_29_method_65_code (2 : Nat) (Option.some Jvm.ClassFile.FieldType.int)).before args0 about1 = true := code_word (m := ⟨22, 1⟩) (meth := k22m1) (c := k22c1) (by decide +kernel) rfl rfl rfl (by decide +kernel)
set_option maxRecDepth 65536 in
theorem w_c20 : (Jvm.Cond.code ({ cls := "com/example/optimistik/optimistik/engine/CommitChecks", name := "noteScan", desc := "(Lcom/example/optimistik/optimistik/engine/EngineTable;Lcom/example/optimistik/optimistik/model/KeyRange;Ljava/util/function/Predicate;Lcom/example/optimistik/optimistik/model/IsolationLevel;)V" } : Jvm.MethodName) prog_12_method_4_code (5 : Nat) (Option.none : Option Jvm.ClassFile.FieldType)).before args0 about1 = true := code_word (m := ⟨2, 2⟩) (meth := k2m2) (c := k2c2) (by decide +kernel) rfl rfl rfl (by decide +kernel)
set_option maxRecDepth 65536 in
theorem w_c21 : (Jvm.Cond.code ({ cls := "com/example/optimistik/optimistik/engine/CommitChecks", name := "checksRangesScanned", desc := "(Lcom/example/optimistik/optimistik/model/IsolationLevel;)Z" } : Jvm.MethodName) prog_12_method_13_code (1 : Nat) (Option.some Jvm.ClassFile.FieldType.boolean)).before args0 about1 = true := code_word (m := ⟨2, 6⟩) (meth := k2m6) (c := k2c6) (by decide +kernel) rfl rfl rfl (by decide +kernel)
set_option maxRecDepth 65536 in
theorem w_c22 : (Jvm.Cond.code ({ cls := "com/example/optimistik/optimistik/engine/CommitChecks", name := "noteRead", desc := "(Lcom/example/optimistik/optimistik/engine/Version;Lcom/example/optimistik/optimistik/model/IsolationLevel;)V" } : Jvm.MethodName) prog_12_method_2_code (3 : Nat) (Option.none : Option Jvm.ClassFile.FieldType)).before args0 about1 = true := code_word (m := ⟨2, 1⟩) (meth := k2m1) (c := k2c1) (by decide +kernel) rfl rfl rfl (by decide +kernel)
set_option maxRecDepth 65536 in
theorem w_c23 : (Jvm.Cond.code ({ cls := "com/example/optimistik/optimistik/engine/CommitChecks", name := "checksRowsRead", desc := "(Lcom/example/optimistik/optimistik/model/IsolationLevel;)Z" } : Jvm.MethodName) prog_12_method_12_code (1 : Nat) (Option.some Jvm.ClassFile.FieldType.boolean)).before args0 about1 = true := code_word (m := ⟨2, 5⟩) (meth := k2m5) (c := k2c5) (by decide +kernel) rfl rfl rfl (by decide +kernel)
set_option maxRecDepth 65536 in
theorem w_c24 : (Jvm.Cond.code ({ cls := "com/example/optimistik/optimistik/engine/IdentitySet", name := "<init>", desc := "(Ljava/util/function/ToIntFunction;)V" } : Jvm.MethodName) prog_24_method_1_code (2 : Nat) (Option.none : Option Jvm.ClassFile.FieldType)).before args0 about1 = true := code_word (m := ⟨24, 0⟩) (meth := k24m0) (c := k24c0) (by decide +kernel) rfl rfl rfl (by decide +kernel)
set_option maxRecDepth 65536 in
theorem w_c25 : (Jvm.Cond.code ({ cls := "com/example/optimistik/optimistik/engine/IdentitySet", name := "add", desc := "(Ljava/lang/Object;)Z" } : Jvm.MethodName) prog_24_method_2_code (3 : Nat) (Option.some Jvm.ClassFile.FieldType.boolean)).before args0 about1 = true := code_word (m := ⟨24, 1⟩) (meth := k24m1) (c := k24c1) (by decide +kernel) rfl rfl rfl (by decide +kernel)
set_option maxRecDepth 65536 in
theorem w_c26 : (Jvm.Cond.code ({ cls := "com/example/optimistik/optimistik/engine/IdentitySet", name := "contains", desc := "(Ljava/lang/Object;)Z" } : Jvm.MethodName) prog_24_method_4_code (5 : Nat) (Option.some Jvm.ClassFile.FieldType.boolean)).before args0 about1 = true := code_word (m := ⟨24, 2⟩) (meth := k24m2) (c := k24c2) (by decide +kernel) rfl rfl rfl (by decide +kernel)
set_option maxRecDepth 65536 in
theorem w_c27 : (Jvm.Cond.code ({ cls := "com/example/optimistik/optimistik/engine/IdentitySet", name := "append", desc := "(Ljava/lang/Object;)V" } : Jvm.MethodName) prog_24_method_5_code (3 : Nat) (Option.none : Option Jvm.ClassFile.FieldType)).before args0 about1 = true := code_word (m := ⟨24, 3⟩) (meth := k24m3) (c := k24c3) (by decide +kernel) rfl rfl rfl (by decide +kernel)
set_option maxRecDepth 65536 in
theorem w_c28 : (Jvm.Cond.code ({ cls := "com/example/optimistik/optimistik/engine/CommitChecks$RangeRead", name := "<init>", desc := "(Lcom/example/optimistik/optimistik/engine/EngineTable;Lcom/example/optimistik/optimistik/model/KeyRange;Ljava/util/function/Predicate;)V" } : Jvm.MethodName) prog_13_method_1_code (4 : Nat) (Option.none : Option Jvm.ClassFile.FieldType)).before args0 about1 = true := code_word (m := ⟨27, 0⟩) (meth := k27m0) (c := k27c0) (by decide +kernel) rfl rfl rfl (by decide +kernel)
def codes1 : List Jvm.Cond := [Jvm.Cond.code x code maxLocals ret, Jvm.Cond.code ({ cls := "com/example/optimistik/optimistik/engine/CommitChecks", name := "<init>", desc := "()V" } : Jvm.MethodName) prog_12_method_1_code (1 : Nat) (Option.none : Option Jvm.ClassFile.FieldType), Jvm.Cond.code ({ cls := "java/lang/Object", name := "<init>", desc := "()V" } : Jvm.MethodName) object_method_1_code (1 : Nat) (Option.none : Option Jvm.ClassFile.FieldType), Jvm.Cond.code ({ cls := "com/example/optimistik/optimistik/engine/CommitChecks", name := "isEmpty", desc := "()Z" } : Jvm.MethodName) prog_12_method_6_code (1 : Nat) (Option.some Jvm.ClassFile.FieldType.boolean), Jvm.Cond.code ({ cls := "com/example/optimistik/optimistik/engine/CommitChecksIsEmptyPinLaw", name := "step", desc := "(Lcom/example/optimistik/optimistik/engine/CommitChecks;IJ)Z" } : Jvm.MethodName) method_4_code (7 : Nat) (Option.some Jvm.ClassFile.FieldType.boolean), Jvm.Cond.code ({ cls := "com/example/optimistik/optimistik/engine/CommitChecksIsEmptyPinLaw", name := "level", desc := "(I)Lcom/example/optimistik/optimistik/model/IsolationLevel;" } : Jvm.MethodName) method_3_code (1 : Nat) (Option.some (Jvm.ClassFile.FieldType.object "com/example/optimistik/optimistik/model/IsolationLevel")), Jvm.Cond.code ({ cls := "java/lang/Long", name := "valueOf", desc := "(J)Ljava/lang/Long;" } : Jvm.MethodName) jdk_35_method_24_code (3 : Nat) (Option.some (Jvm.ClassFile.FieldType.object "java/lang/Long")), Jvm.Cond.code ({ cls := "java/lang/Long", name := "<init>", desc := "(J)V" } : Jvm.MethodName) jdk_35_method_26_code (3 : Nat) (Option.none : Option Jvm.ClassFile.FieldType), Jvm.Cond.code ({ cls := "java/lang/Number", name := "<init>", desc := "()V" } : Jvm.MethodName) jdk_18_method_1_code (1 : Nat) (Option.none : Option Jvm.ClassFile.FieldType), Jvm.Cond.code ({ cls := "com/example/optimistik/optimistik/engine/CommitChecks", name := "noteInsert", desc := "(Lcom/example/optimistik/optimistik/engine/EngineTable;Ljava/lang/Object;)V" } : Jvm.MethodName) prog_12_method_5_code (3 : Nat) (Option.none : Option Jvm.ClassFile.FieldType), Jvm.Cond.code ({ cls := "java/util/ArrayList", name := "<init>", desc := "()V" } : Jvm.MethodName) jdk_38_method_2_code (1 : Nat) (Option.none : Option Jvm.ClassFile.FieldType), Jvm.Cond.code ({ cls := "java/util/AbstractList", name := "<init>", desc := "()V" } : Jvm.MethodName) jdk_39_method_1_code (1 : Nat) (Option.none : Option Jvm.ClassFile.FieldType), Jvm.Cond.code ({ cls := "java/util/AbstractCollection", name := "<init>", desc := "()V" } : Jvm.MethodName) jdk_22_method_1_code (1 : Nat) (Option.none : Option Jvm.ClassFile.FieldType), Jvm.Cond.code ({ cls := "com/example/optimistik/optimistik/engine/CommitChecks$RowAt", name := "<init>", desc := "(Lcom/example/optimistik/optimistik/engine/EngineTable;Ljava/lang/Object;)V" } : Jvm.MethodName) prog_14_method_1_code (3 : Nat) (Option.none : Option Jvm.ClassFile.FieldType), Jvm.Cond.code ({ cls := "java/lang/Record", name := "<init>", desc := "()V" } : Jvm.MethodName) jdk_30_method_1_code (1 : Nat) (Option.none : Option Jvm.ClassFile.FieldType), Jvm.Cond.code ({ cls := "java/util/ArrayList", name := "add", desc := "(Ljava/lang/Object;)Z" } : Jvm.MethodName) jdk_38_method_25_code (2 : Nat) (Option.some Jvm.ClassFile.FieldType.boolean), Jvm.Cond.code ({ cls := "java/util/ArrayList", name := "add", desc := "(Ljava/lang/Object;[Ljava/lang/Object;I)V" } : Jvm.MethodName) jdk_38_method_24_code (4 : Nat) (Option.none : Option Jvm.ClassFile.FieldType), Jvm.Cond.code ({ cls := "java/util/ArrayList", name := "grow", desc := "()[Ljava/lang/Object;" } : Jvm.MethodName) jdk_38_method_7_code (1 : Nat) (Option.some (Jvm.ClassFile.FieldType.array (Jvm.ClassFile.FieldType.object "java/lang/Object"))), Jvm.Cond.code ({ cls := "java/util/ArrayList", name := "grow", desc := "(I)[Ljava/lang/Object;" } : Jvm.MethodName) jdk_38_method_6_code (4 : Nat) (Option.some (Jvm.ClassFile.FieldType.array (Jvm.ClassFile.FieldType.object "java/lang/Object"))), Jvm.Cond.code ({ cls := "java/lang/Math", name := "max", desc := "(II)I" } : Jvm.MethodName) jdk_29_method_65_code (2 : Nat) (Option.some Jvm.ClassFile.FieldType.int), Jvm.Cond.code ({ cls := "com/example/optimistik/optimistik/engine/CommitChecks", name := "noteScan", desc := "(Lcom/example/optimistik/optimistik/engine/EngineTable;Lcom/example/optimistik/optimistik/model/KeyRange;Ljava/util/function/Predicate;Lcom/example/optimistik/optimistik/model/IsolationLevel;)V" } : Jvm.MethodName) prog_12_method_4_code (5 : Nat) (Option.none : Option Jvm.ClassFile.FieldType), Jvm.Cond.code ({ cls := "com/example/optimistik/optimistik/engine/CommitChecks", name := "checksRangesScanned", desc := "(Lcom/example/optimistik/optimistik/model/IsolationLevel;)Z" } : Jvm.MethodName) prog_12_method_13_code (1 : Nat) (Option.some Jvm.ClassFile.FieldType.boolean), Jvm.Cond.code ({ cls := "com/example/optimistik/optimistik/engine/CommitChecks", name := "noteRead", desc := "(Lcom/example/optimistik/optimistik/engine/Version;Lcom/example/optimistik/optimistik/model/IsolationLevel;)V" } : Jvm.MethodName) prog_12_method_2_code (3 : Nat) (Option.none : Option Jvm.ClassFile.FieldType), Jvm.Cond.code ({ cls := "com/example/optimistik/optimistik/engine/CommitChecks", name := "checksRowsRead", desc := "(Lcom/example/optimistik/optimistik/model/IsolationLevel;)Z" } : Jvm.MethodName) prog_12_method_12_code (1 : Nat) (Option.some Jvm.ClassFile.FieldType.boolean), Jvm.Cond.code ({ cls := "com/example/optimistik/optimistik/engine/IdentitySet", name := "<init>", desc := "(Ljava/util/function/ToIntFunction;)V" } : Jvm.MethodName) prog_24_method_1_code (2 : Nat) (Option.none : Option Jvm.ClassFile.FieldType), Jvm.Cond.code ({ cls := "com/example/optimistik/optimistik/engine/IdentitySet", name := "add", desc := "(Ljava/lang/Object;)Z" } : Jvm.MethodName) prog_24_method_2_code (3 : Nat) (Option.some Jvm.ClassFile.FieldType.boolean), Jvm.Cond.code ({ cls := "com/example/optimistik/optimistik/engine/IdentitySet", name := "contains", desc := "(Ljava/lang/Object;)Z" } : Jvm.MethodName) prog_24_method_4_code (5 : Nat) (Option.some Jvm.ClassFile.FieldType.boolean), Jvm.Cond.code ({ cls := "com/example/optimistik/optimistik/engine/IdentitySet", name := "append", desc := "(Ljava/lang/Object;)V" } : Jvm.MethodName) prog_24_method_5_code (3 : Nat) (Option.none : Option Jvm.ClassFile.FieldType), Jvm.Cond.code ({ cls := "com/example/optimistik/optimistik/engine/CommitChecks$RangeRead", name := "<init>", desc := "(Lcom/example/optimistik/optimistik/engine/EngineTable;Lcom/example/optimistik/optimistik/model/KeyRange;Ljava/util/function/Predicate;)V" } : Jvm.MethodName) prog_13_method_1_code (4 : Nat) (Option.none : Option Jvm.ClassFile.FieldType)]
set_option maxRecDepth 65536 in
theorem codes_eq : words1.filter isCode = codes1 := rfl
theorem w_codes : ∀ c ∈ words1.filter isCode, c.before args0 about1 = true := by
  rw [codes_eq]
  intro c hc
  simp only [codes1, List.mem_cons, List.not_mem_nil, or_false] at hc
  rcases hc with rfl | rfl | rfl | rfl | rfl | rfl | rfl | rfl | rfl | rfl | rfl | rfl | rfl | rfl | rfl | rfl | rfl | rfl | rfl | rfl | rfl | rfl | rfl | rfl | rfl | rfl | rfl | rfl | rfl
  · exact w_c0
  · exact w_c1
  · exact w_c2
  · exact w_c3
  · exact w_c4
  · exact w_c5
  · exact w_c6
  · exact w_c7
  · exact w_c8
  · exact w_c9
  · exact w_c10
  · exact w_c11
  · exact w_c12
  · exact w_c13
  · exact w_c14
  · exact w_c15
  · exact w_c16
  · exact w_c17
  · exact w_c18
  · exact w_c19
  · exact w_c20
  · exact w_c21
  · exact w_c22
  · exact w_c23
  · exact w_c24
  · exact w_c25
  · exact w_c26
  · exact w_c27
  · exact w_c28
set_option maxRecDepth 65536 in
theorem w_t1 : (words1.take 24).all (fun c => isCode c || c.before args0 about1) = true := by decide +kernel
set_option maxRecDepth 65536 in
theorem w_t2 : ((words1.drop 24).take 24).all (fun c => isCode c || c.before args0 about1) = true := by decide +kernel
set_option maxRecDepth 65536 in
theorem w_t3 : (((words1.drop 24).drop 24).take 24).all (fun c => isCode c || c.before args0 about1) = true := by decide +kernel
set_option maxRecDepth 65536 in
theorem w_t4 : ((((words1.drop 24).drop 24).drop 24).take 24).all (fun c => isCode c || c.before args0 about1) = true := by decide +kernel
set_option maxRecDepth 65536 in
theorem w_t5 : (((((words1.drop 24).drop 24).drop 24).drop 24).take 24).all (fun c => isCode c || c.before args0 about1) = true := by decide +kernel
set_option maxRecDepth 65536 in
theorem w_t6 : ((((((words1.drop 24).drop 24).drop 24).drop 24).drop 24).take 24).all (fun c => isCode c || c.before args0 about1) = true := by decide +kernel
set_option maxRecDepth 65536 in
theorem w_t7 : (((((((words1.drop 24).drop 24).drop 24).drop 24).drop 24).drop 24).take 24).all (fun c => isCode c || c.before args0 about1) = true := by decide +kernel
set_option maxRecDepth 65536 in
theorem w_t8 : ((((((((words1.drop 24).drop 24).drop 24).drop 24).drop 24).drop 24).drop 24).take 24).all (fun c => isCode c || c.before args0 about1) = true := by decide +kernel
set_option maxRecDepth 65536 in
theorem w_t9 : ((((((((words1.drop 24).drop 24).drop 24).drop 24).drop 24).drop 24).drop 24).drop 24).all (fun c => isCode c || c.before args0 about1) = true := by decide +kernel
theorem w_tables : (allAtoms (Jvm.Cond.code x code maxLocals ret :: tables_1)).before args0 about1 = true := by
  rw [allAtoms_all]
  show words1.all (fun c => c.before args0 about1) = true
  refine all_split ?_ w_codes
  rw [← List.take_append_drop 24 words1, List.all_append, w_t1, ← List.take_append_drop 24 (words1.drop 24), List.all_append, w_t2, ← List.take_append_drop 24 ((words1.drop 24).drop 24), List.all_append, w_t3, ← List.take_append_drop 24 (((words1.drop 24).drop 24).drop 24), List.all_append, w_t4, ← List.take_append_drop 24 ((((words1.drop 24).drop 24).drop 24).drop 24), List.all_append, w_t5, ← List.take_append_drop 24 (((((words1.drop 24).drop 24).drop 24).drop 24).drop 24), List.all_append, w_t6, ← List.take_append_drop 24 ((((((words1.drop 24).drop 24).drop 24).drop 24).drop 24).drop 24), List.all_append, w_t7, ← List.take_append_drop 24 (((((((words1.drop 24).drop 24).drop 24).drop 24).drop 24).drop 24).drop 24), List.all_append, w_t8, w_t9]
  rfl
set_option maxRecDepth 65536 in
theorem w_rest : rest_1_c.before args0 about1 = true := by decide +kernel
set_option maxRecDepth 65536 in
theorem w_case : (Jvm.Cond.and given_1 narrow_1).before args0 about1 = true := by decide +kernel
theorem w_applies : (headSpec (Jvm.Cond.code x code maxLocals ret :: tables_1) room_1).applies x e0.platform about1 = true :=
  (Spec.applies_iff w_frames).mpr ⟨w_running, w_runnable, w_alone, w_named, w_hears, w_ripe, w_room, w_tables⟩
theorem atStart : AtStart classFile x code maxLocals ret World_1 tables_1 room_1 Calls_1 rest_1 Pre_1 launch0 p0 e0 about1 theMethod args0 below0 :=
  ⟨lists_1, trivial, launch0.admits_env _ _ _, launch0.least_env, fairChoices_fair.cas, fairChoices_fair.clock, w_frames, w_args, w_heap, w_applies, trivial, w_rest, w_case⟩
end start1
theorem witness_1 : WitnessClaimed_1 := ⟨start1.p0, start1.e0, start1.about1, start1.theMethod, start1.args0, start1.below0, start1.atStart⟩
end Jvm.Pilot.@@N@@
